/-
  The walks of (iriParts).String (31) and ZZiriString (20).
-/
import Derived.Test.Qxb6605311aWalkF
import Derived.Laws.IdiomStrings
namespace Go.Proofs.Qxb6605311a
open Go.RowKit
set_option linter.unusedVariables false

theorem ret_strH {a b : List UInt8} (h : a = b) : Ending.returned (.string ⟨a.toArray⟩) = .returned (.string ⟨b.toArray⟩) := by rw [h]

/-- Of a world behind the box: its nine cells. -/
structure Boxed (w wx : World) (sc au pa qu fr : ByteArray) (b1 b2 b3 b4 : Bool) : Prop where
  below : Below (w.heap.size + 1) (w.alloc (.cells #[.string sc, .string au, .string pa, .string qu, .string fr, .bool b1, .bool b2, .bool b3, .bool b4] 38)) wx

theorem Boxed.cell {w wx : World} {sc au pa qu fr : ByteArray} {b1 b2 b3 b4 : Bool} (h : Boxed w wx sc au pa qu fr b1 b2 b3 b4) (j : Nat) :
    wx.cell? ⟨w.heap.size, j, none⟩ = (#[Value.string sc, .string au, .string pa, .string qu, .string fr, .bool b1, .bool b2, .bool b3, .bool b4] : Array Value)[j]? := by
  rw [h.below.cell (p := ⟨w.heap.size, j, none⟩) (by show w.heap.size < _; omega)]
  exact World.cell?_alloc_mark w _ 38 (0, 0) j

theorem Boxed.old {w wx : World} {sc au pa qu fr : ByteArray} {b1 b2 b3 b4 : Bool} (h : Boxed w wx sc au pa qu fr b1 b2 b3 b4) : Below w.heap.size w wx :=
  ((Below.refl _ w).alloc (Nat.le_refl _) _).trans (h.below.mono (by omega))
theorem Boxed.size {w wx : World} {sc au pa qu fr : ByteArray} {b1 b2 b3 b4 : Bool} (h : Boxed w wx sc au pa qu fr b1 b2 b3 b4) : w.heap.size + 1 ≤ wx.heap.size := by
  have := h.below.size
  simpa using this
theorem Boxed.next {w wx w1 : World} {sc au pa qu fr : ByteArray} {b1 b2 b3 b4 : Bool} (h : Boxed w wx sc au pa qu fr b1 b2 b3 b4) (k : Below (w.heap.size + 1) wx w1) : Boxed w w1 sc au pa qu fr b1 b2 b3 b4 := ⟨h.below.trans k⟩

set_option maxHeartbeats 2000000 in
set_option maxRecDepth 10000 in
theorem string_any (sc au pa qu fr : ByteArray) (b1 b2 b3 b4 : Bool) (w : World) (hsz : sc.size + au.size + pa.size + qu.size + fr.size ≤ 140737488355000) :
    Calls Try.prog 31 #[.agg #[.string sc, .string au, .string pa, .string qu, .string fr, .bool b1, .bool b2, .bool b3, .bool b4]] w fun e w' => e = .returned (.string ⟨(Pl.join (PB sc au pa qu fr b1 b2 b3 b4)).toArray⟩) ∧ Below w.heap.size w w' := by
  have hbx : Boxed w ((w.alloc (.cells #[.string sc, .string au, .string pa, .string qu, .string fr, .bool b1, .bool b2, .bool b3, .bool b4] 38)).alloc (.cells #[.pointer none, .slice none 0 0] 43)) sc au pa qu fr b1 b2 b3 b4 :=
    ⟨(Below.refl _ _).alloc (by simp) _⟩
  have hI : Lib.IsBuilderF 43 5 (w.heap.size + 1) (w.heap.size + 1) [] ((w.alloc (.cells #[.string sc, .string au, .string pa, .string qu, .string fr, .bool b1, .bool b2, .bool b3, .bool b4] 38)).alloc (.cells #[.pointer none, .slice none 0 0] 43)) := by
    have := Lib.IsBuilderF.of (Lib.fresh_isBuilder 43 5 (w.alloc (.cells #[.string sc, .string au, .string pa, .string qu, .string fr, .bool b1, .bool b2, .bool b3, .bool b4] 38)))
    simpa using this
  go_enter Try.func31, Try.ntmps31
  go_upto_if 5 with fail
  go_cut [] (fun wx => ∃ acc : List UInt8, Lib.IsBuilderF 43 5 (w.heap.size + 1) (w.heap.size + 1) (Lib.byteCells acc) wx ∧ Boxed w wx sc au pa qu fr b1 b2 b3 b4 ∧ acc.length ≤ sc.size + 1 ∧ Hid (acc = Pl.joinA (PB sc au pa qu fr b1 b2 b3 b4)))
  case first =>
    cases b1 with
    | true =>
      go_wp2_with fail
      refine (cWriteString _ _ [] _ _ hI (by simp only [List.length_nil]; omega) hbx.size).mono ?_
      rintro e W1 ⟨rfl, i1, bl1⟩
      have hbx1 := hbx.next bl1
      go_wp2_with fail
      refine (cWriteByte _ _ _ _ _ i1 (by decide) (by decide) (by simp; omega) hbx1.size).mono ?_
      rintro e W2 ⟨rfl, i2, bl2⟩
      have hbx2 := hbx1.next bl2
      go_wp2
      go_meet
      case rel => exact ⟨_, i2, hbx2, by simp, rfl⟩
    | false =>
      go_wp2
      go_meet
      case rel => exact ⟨[], hI, hbx, by simp, rfl⟩
  case rest =>
  obtain ⟨acc, hI2, hbx2, hl2, HA⟩ := hcut
  clear hI hbx
  have c0 : wc.cell? ⟨w.heap.size, 0, none⟩ = some (.string sc) := hbx2.cell 0
  have c1 : wc.cell? ⟨w.heap.size, 1, none⟩ = some (.string au) := hbx2.cell 1
  have c2 : wc.cell? ⟨w.heap.size, 2, none⟩ = some (.string pa) := hbx2.cell 2
  have c3 : wc.cell? ⟨w.heap.size, 3, none⟩ = some (.string qu) := hbx2.cell 3
  have c4 : wc.cell? ⟨w.heap.size, 4, none⟩ = some (.string fr) := hbx2.cell 4
  have c5 : wc.cell? ⟨w.heap.size, 5, none⟩ = some (.bool b1) := hbx2.cell 5
  have c6 : wc.cell? ⟨w.heap.size, 6, none⟩ = some (.bool b2) := hbx2.cell 6
  have c7 : wc.cell? ⟨w.heap.size, 7, none⟩ = some (.bool b3) := hbx2.cell 7
  have c8 : wc.cell? ⟨w.heap.size, 8, none⟩ = some (.bool b4) := hbx2.cell 8
  go_upto_if 11 with fail
  go_cut [] (fun wx => ∃ acc2 : List UInt8, Lib.IsBuilderF 43 5 (w.heap.size + 1) (w.heap.size + 1) (Lib.byteCells acc2) wx ∧ Boxed w wx sc au pa qu fr b1 b2 b3 b4 ∧ acc2.length ≤ sc.size + au.size + 3 ∧ Hid (acc2 = acc ++ Pl.joinB (PB sc au pa qu fr b1 b2 b3 b4)))
  case first =>
    cases b2 with
    | true =>
      go_wp2_with fail
      refine (cWriteString _ _ acc _ _ hI2 (by show acc.length + 2 ≤ _; omega) hbx2.size).mono ?_
      rintro e W1 ⟨rfl, i1, bl1⟩
      have hbx3 := hbx2.next bl1
      have d1 : W1.cell? ⟨w.heap.size, 1, none⟩ = some (.string au) := hbx3.cell 1
      have hl3 : (acc ++ ({ data := #[47, 47] } : ByteArray).data.toList).length ≤ sc.size + 3 := by rw [List.length_append]; show acc.length + 2 ≤ _; omega
      go_wp2_with fail
      refine (cWriteString _ _ _ _ _ i1 (by omega) hbx3.size).mono ?_
      rintro e W2 ⟨rfl, i2, bl2⟩
      have hbx4 := hbx3.next bl2
      go_wp2
      go_meet
      case rel => exact ⟨_, i2, hbx4, by simp; omega, by show _ = _; simp [Pl.joinB, PB]⟩
    | false =>
      go_wp2
      go_meet
      case rel => exact ⟨acc, hI2, hbx2, by omega, by show _ = _; simp [Pl.joinB, PB]⟩
  case rest =>
  clear c0 c1 c2 c3 c4 c5 c6 c7 c8
  obtain ⟨acc2, hI3, hbx3, hl3, HA2⟩ := hcut
  clear hI2 hbx2
  have c0 : wc.cell? ⟨w.heap.size, 0, none⟩ = some (.string sc) := hbx3.cell 0
  have c1 : wc.cell? ⟨w.heap.size, 1, none⟩ = some (.string au) := hbx3.cell 1
  have c2 : wc.cell? ⟨w.heap.size, 2, none⟩ = some (.string pa) := hbx3.cell 2
  have c3 : wc.cell? ⟨w.heap.size, 3, none⟩ = some (.string qu) := hbx3.cell 3
  have c4 : wc.cell? ⟨w.heap.size, 4, none⟩ = some (.string fr) := hbx3.cell 4
  have c5 : wc.cell? ⟨w.heap.size, 5, none⟩ = some (.bool b1) := hbx3.cell 5
  have c6 : wc.cell? ⟨w.heap.size, 6, none⟩ = some (.bool b2) := hbx3.cell 6
  have c7 : wc.cell? ⟨w.heap.size, 7, none⟩ = some (.bool b3) := hbx3.cell 7
  have c8 : wc.cell? ⟨w.heap.size, 8, none⟩ = some (.bool b4) := hbx3.cell 8
  go_wp2_with fail
  refine (cWriteString _ _ acc2 _ _ hI3 (by omega) hbx3.size).mono ?_
  rintro e W3 ⟨rfl, hI4, bl4⟩
  have hbx4 := hbx3.next bl4
  clear c0 c1 c2 c3 c4 c5 c6 c7 c8 bl4
  have d0 : W3.cell? ⟨w.heap.size, 0, none⟩ = some (.string sc) := hbx4.cell 0
  have d1 : W3.cell? ⟨w.heap.size, 1, none⟩ = some (.string au) := hbx4.cell 1
  have d2 : W3.cell? ⟨w.heap.size, 2, none⟩ = some (.string pa) := hbx4.cell 2
  have d3 : W3.cell? ⟨w.heap.size, 3, none⟩ = some (.string qu) := hbx4.cell 3
  have d4 : W3.cell? ⟨w.heap.size, 4, none⟩ = some (.string fr) := hbx4.cell 4
  have d5 : W3.cell? ⟨w.heap.size, 5, none⟩ = some (.bool b1) := hbx4.cell 5
  have d6 : W3.cell? ⟨w.heap.size, 6, none⟩ = some (.bool b2) := hbx4.cell 6
  have d7 : W3.cell? ⟨w.heap.size, 7, none⟩ = some (.bool b3) := hbx4.cell 7
  have d8 : W3.cell? ⟨w.heap.size, 8, none⟩ = some (.bool b4) := hbx4.cell 8
  obtain ⟨acc3, hacc3⟩ : ∃ a, a = acc2 ++ pa.data.toList := ⟨_, rfl⟩
  rw [← hacc3] at hI4
  have hl4 : acc3.length ≤ sc.size + au.size + pa.size + 3 := by rw [hacc3, List.length_append, ← Pl.size_toList]; omega
  have HA3 : Hid (acc3 = acc2 ++ pa.data.toList) := hacc3
  clear hacc3 hI3 hbx3
  go_upto_if 20 with fail
  go_cut [] (fun wx => ∃ acc4 : List UInt8, Lib.IsBuilderF 43 5 (w.heap.size + 1) (w.heap.size + 1) (Lib.byteCells acc4) wx ∧ Boxed w wx sc au pa qu fr b1 b2 b3 b4 ∧ acc4.length ≤ sc.size + au.size + pa.size + qu.size + 4 ∧ Hid (acc4 = acc3 ++ Pl.joinQ (PB sc au pa qu fr b1 b2 b3 b4)))
  case first =>
    cases b3 with
    | true =>
      go_wp2_with fail
      refine (cWriteByte _ _ acc3 _ _ hI4 (by decide) (by decide) (by omega) hbx4.size).mono ?_
      rintro e W4 ⟨rfl, i1, bl1⟩
      have hbx5 := hbx4.next bl1
      clear d0 d1 d2 d3 d4 d5 d6 d7 d8
      have d3 : W4.cell? ⟨w.heap.size, 3, none⟩ = some (.string qu) := hbx5.cell 3
      go_wp2_with fail
      refine (cWriteString _ _ _ _ _ i1 (by simp; omega) hbx5.size).mono ?_
      rintro e W5 ⟨rfl, i2, bl2⟩
      have hbx6 := hbx5.next bl2
      go_wp2
      go_meet
      case rel => exact ⟨_, i2, hbx6, by simp; omega, by show _ = _; simp [Pl.joinQ, PB]⟩
    | false =>
      go_wp2
      go_meet
      case rel => exact ⟨acc3, hI4, hbx4, by omega, by show _ = _; simp [Pl.joinQ, PB]⟩
  case rest =>
  clear d0 d1 d2 d3 d4 d5 d6 d7 d8
  obtain ⟨acc4, hI5, hbx5, hl5, HA4⟩ := hcut
  clear hI4 hbx4
  have c0 : wc.cell? ⟨w.heap.size, 0, none⟩ = some (.string sc) := hbx5.cell 0
  have c1 : wc.cell? ⟨w.heap.size, 1, none⟩ = some (.string au) := hbx5.cell 1
  have c2 : wc.cell? ⟨w.heap.size, 2, none⟩ = some (.string pa) := hbx5.cell 2
  have c3 : wc.cell? ⟨w.heap.size, 3, none⟩ = some (.string qu) := hbx5.cell 3
  have c4 : wc.cell? ⟨w.heap.size, 4, none⟩ = some (.string fr) := hbx5.cell 4
  have c5 : wc.cell? ⟨w.heap.size, 5, none⟩ = some (.bool b1) := hbx5.cell 5
  have c6 : wc.cell? ⟨w.heap.size, 6, none⟩ = some (.bool b2) := hbx5.cell 6
  have c7 : wc.cell? ⟨w.heap.size, 7, none⟩ = some (.bool b3) := hbx5.cell 7
  have c8 : wc.cell? ⟨w.heap.size, 8, none⟩ = some (.bool b4) := hbx5.cell 8
  go_upto_if 26 with fail
  go_cut [] (fun wx => ∃ acc5 : List UInt8, Lib.IsBuilderF 43 5 (w.heap.size + 1) (w.heap.size + 1) (Lib.byteCells acc5) wx ∧ Boxed w wx sc au pa qu fr b1 b2 b3 b4 ∧ Hid (acc5 = acc4 ++ Pl.joinH (PB sc au pa qu fr b1 b2 b3 b4)))
  case first =>
    cases b4 with
    | true =>
      go_wp2_with fail
      refine (cWriteByte _ _ acc4 _ _ hI5 (by decide) (by decide) (by omega) hbx5.size).mono ?_
      rintro e W4 ⟨rfl, i1, bl1⟩
      have hbx6 := hbx5.next bl1
      clear c0 c1 c2 c3 c4 c5 c6 c7 c8
      have d4 : W4.cell? ⟨w.heap.size, 4, none⟩ = some (.string fr) := hbx6.cell 4
      go_wp2_with fail
      refine (cWriteString _ _ _ _ _ i1 (by simp; omega) hbx6.size).mono ?_
      rintro e W5 ⟨rfl, i2, bl2⟩
      have hbx7 := hbx6.next bl2
      go_wp2
      go_meet
      case rel => exact ⟨_, i2, hbx7, by show _ = _; simp [Pl.joinH, PB]⟩
    | false =>
      go_wp2
      go_meet
      case rel => exact ⟨acc4, hI5, hbx5, by show _ = _; simp [Pl.joinH, PB]⟩
  case rest =>
  clear c0 c1 c2 c3 c4 c5 c6 c7 c8
  obtain ⟨acc5, hI6, hbx6, HA5⟩ := hcut
  have HJ : Hid (acc5 = Pl.join (PB sc au pa qu fr b1 b2 b3 b4)) := by
    show _ = _
    rw [HA5.out, HA4.out, HA3.out, HA2.out, HA.out]
    rfl
  go_wp2_with fail
  refine (cString _ _ acc5 _ hI6 hbx6.size).mono ?_
  rintro e W6 ⟨rfl, i6, bl6⟩
  go_wp2
  go_ret
  exact ⟨ret_strH HJ.out, (hbx6.next bl6).old⟩

theorem zzString_any (sc au pa qu fr : ByteArray) (b1 b2 b3 b4 : Bool) (w : World) (hsz : sc.size + au.size + pa.size + qu.size + fr.size ≤ 140737488355000) :
    Calls Try.prog 20 #[.string sc, .string au, .string pa, .string qu, .string fr, .bool b1, .bool b2, .bool b3, .bool b4] w fun e w' => e = .returned (.string ⟨(Pl.join (PB sc au pa qu fr b1 b2 b3 b4)).toArray⟩) ∧ Below w.heap.size w w' := by
  go_enter Try.func20, Try.ntmps20
  go_wp2_with fail
  refine (string_any _ _ _ _ _ _ _ _ _ _ hsz).mono ?_
  rintro e W1 ⟨rfl, b1⟩
  go_wp2
  go_ret
  exact ⟨rfl, b1⟩

end Go.Proofs.Qxb6605311a
