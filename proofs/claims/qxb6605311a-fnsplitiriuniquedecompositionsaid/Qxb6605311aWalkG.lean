/-
  The walk of b1Join (18).
-/
import Derived.Test.Qxb6605311aWalkF
import Derived.Lib.AppendStr
import Derived.Laws.IdiomStrings
namespace Go.Proofs.Qxb6605311a
open Go.RowKit
set_option linter.unusedVariables false

theorem Try.infoB : (Try.prog.info? 5).map (fun i => (i.zero, i.size, i.bytes)) = some (some (.int .u8 0), 1, 1) := by kernel_rfl

/-- What 'string(b)' gives of a row of bytes that the call owns. -/
theorem ownB_string {w : World} {base : Nat} {v : Value} {n : Nat} {l : List UInt8} (h : w.ownsRow base 5 1 v n (Lib.byteCells l)) : (convert 36 9 v).run Try.prog w = .ok (.string ⟨l.toArray⟩) w := by
  have hn : l.length = n := by have := h.1; rw [Lib.byteCells_length] at this; omega
  rcases h.2 with ⟨rfl, h0⟩ | ⟨g, cap, cur, rfl, hb, hg, _, _, hcs, htake⟩
  · have : l = [] := by rw [h0] at hn; exact List.length_eq_zero_iff.1 hn
    subst this
    exact run_convert_bytes_nil w 36 5 Try.underlying36 Try.underlying5 0 0 9 Try.underlying9
  · subst hn
    refine run_convert_bytes_back w 36 9 5 ⟨g, 0, none⟩ cap l Try.underlying36 Try.underlying5 Try.underlying9 (fun j hj => ?_)
    exact h.cells (g := g) rfl j _ (by simp [Lib.byteCells, hj])

theorem mlB (n : Nat) (h : n ≤ 140737488355328) : n ≤ maxLen := by unfold maxLen; omega
theorem size_allocB {B : Nat} {w : World} (h : B ≤ w.heap.size) (o : Obj) : B ≤ (w.alloc o).heap.size := by simp; omega
theorem one_byteB (c : Int) : ∀ u ∈ [Value.int .u8 c], u.oneCell' = true := by intro u hu; simp at hu; subst hu; rfl
theorem two_bytesB (c d : Int) : ∀ u ∈ [Value.int .u8 c, Value.int .u8 d], u.oneCell' = true := by intro u hu; simp at hu; rcases hu with rfl | rfl <;> rfl
theorem ret_strB {a b : List UInt8} (h : a = b) : Ending.returned (.string ⟨a.toArray⟩) = .returned (.string ⟨b.toArray⟩) := by rw [h]

theorem own_str {B : Nat} {v v' : Value} {w wr w1 : World} {acc : List UInt8} {s : ByteArray} (hb : Below B w wr) (hB : B ≤ wr.heap.size) (hown : wr.ownsRow B 5 1 v acc.length (Lib.byteCells acc))
    (hown' : w1.ownsRow B 5 1 v' (acc.length + s.size) (Lib.byteCells acc ++ Lib.strCells s)) (hg : wr.grownBy w1 v.ownBlock) :
    w1.ownsRow B 5 1 v' (acc ++ s.data.toList).length (Lib.byteCells (acc ++ s.data.toList)) ∧ Below B w w1 ∧ B ≤ w1.heap.size := by
  have e1 : acc.length + s.size = (acc ++ s.data.toList).length := by rw [List.length_append, ← Pl.size_toList]
  rw [Lib.strCells_eq, ← Lib.byteCells_append, e1] at hown'
  have hb1 := hb.grown hg hB (fun k hk => (hown.lt k hk).1)
  exact ⟨hown', hb1, Nat.le_trans hB hg.size⟩

theorem own_bytes {B : Nat} {v v' : Value} {w wr w1 : World} {acc news : List UInt8} {o : Obj} {ns : List Value} (m : Nat) (hns : Lib.byteCells news = ns) (hm : news.length = m) (hb : Below B w wr) (hB : B ≤ wr.heap.size) (hown : wr.ownsRow B 5 1 v acc.length (Lib.byteCells acc))
    (hown' : w1.ownsRow B 5 1 v' (acc.length + m) (Lib.byteCells acc ++ ns)) (hg : (wr.alloc o).grownBy w1 v.ownBlock) :
    w1.ownsRow B 5 1 v' (acc ++ news).length (Lib.byteCells (acc ++ news)) ∧ Below B w w1 ∧ B ≤ w1.heap.size := by
  have e1 : acc.length + m = (acc ++ news).length := by rw [List.length_append, hm]
  rw [← hns, ← Lib.byteCells_append, e1] at hown'
  have hb1 := (hb.alloc hB o).grown hg (size_allocB hB _) (fun k hk => (hown.lt k hk).1)
  exact ⟨hown', hb1, Nat.le_trans (size_allocB hB o) hg.size⟩

set_option maxHeartbeats 2000000 in
set_option maxRecDepth 10000 in
theorem join_any (sc au pa qu fr : ByteArray) (b1 b2 b3 b4 : Bool) (w : World) (hsz : sc.size + au.size + pa.size + qu.size + fr.size ≤ 140737488355000) :
    Calls Try.prog 18 #[.string sc, .string au, .string pa, .string qu, .string fr, .bool b1, .bool b2, .bool b3, .bool b4] w fun e w' => e = .returned (.string ⟨(Pl.join (PB sc au pa qu fr b1 b2 b3 b4)).toArray⟩) ∧ Below w.heap.size w w' := by
  obtain ⟨i5, hi5, hz5, hs5, hb5⟩ := info_parts Try.infoB
  go_enter Try.func18, Try.ntmps18
  go_upto_if 20 with fail
  go_cut [5, 19] (fun v5 v wx => v5 = .bool b1 ∧ ∃ acc : List UInt8, wx.ownsRow w.heap.size 5 1 v acc.length (Lib.byteCells acc) ∧ Below w.heap.size w wx ∧ w.heap.size ≤ wx.heap.size ∧ acc.length ≤ sc.size + 1 ∧ Hid (acc = Pl.joinA (PB sc au pa qu fr b1 b2 b3 b4)))
  case first =>
    have o0 := World.ownsRow_nil w w.heap.size 5 1
    have hB0 : w.heap.size ≤ w.heap.size := Nat.le_refl _
    have bl0 : Below w.heap.size w w := Below.refl _ _
    cases b1 with
    | true =>
      go_wp2_with (at_builtin; refine Lib.wpList_append_own_string _ rfl (.tmp 21) (.tmp 22) 36 9 rfl w.heap.size 5 i5 Try.underlying36 Try.underlying9 hi5 hz5 hs5 hb5 _ _ _ rfl o0 sc rfl (mlB _ (by omega)) (by omega) hB0 ?_)
      intro v1 w1 o1' g1 _
      obtain ⟨o1, bl1, hB1⟩ := own_str (acc := []) (s := sc) bl0 hB0 o0 (by simpa [Lib.byteCells] using o1') g1
      clear o1' g1
      go_wp2_with (at_builtin; refine wpList_append_own _ rfl (.tmp 24) (.tmp 25) 36 rfl w.heap.size 5 i5 (.int .u8 0) 1 1 Try.underlying36 hi5 hz5 hs5 hb5 rfl (by decide) _ _ _ rfl (o1.alloc _) ⟨w1.heap.size, 0, none⟩ 1 1 [.int .u8 58] rfl rfl (cell_one_new _ _ _) (one_byteB _) (mlB _ (by simp; omega)) (by simp; omega) (size_allocB hB1 _) ?_)
      intro v2 w2 o2' g2 _
      obtain ⟨o2, bl2, hB2⟩ := own_bytes (news := [58]) 1 rfl rfl bl1 hB1 o1 o2' g2
      clear o2' g2 o1 bl1 hB1
      go_wp2
      go_meet
      case rel => exact ⟨rfl, _, o2, bl2, hB2, by simp, rfl⟩
    | false =>
      go_wp2
      go_meet
      case rel => exact ⟨rfl, [], o0, bl0, hB0, by simp, rfl⟩
  case rest =>
  obtain ⟨rfl, acc, o0, bl0, hB0, hl0, HA⟩ := hcut
  go_upto_if 27 with fail
  go_cut [6, 19] (fun v6 v wx => v6 = .bool b2 ∧ ∃ acc2 : List UInt8, wx.ownsRow w.heap.size 5 1 v acc2.length (Lib.byteCells acc2) ∧ Below w.heap.size w wx ∧ w.heap.size ≤ wx.heap.size ∧ acc2.length ≤ sc.size + au.size + 3 ∧ Hid (acc2 = acc ++ Pl.joinB (PB sc au pa qu fr b1 b2 b3 b4)))
  case first =>
    cases b2 with
    | true =>
      go_wp2_with (at_builtin; refine wpList_append_own _ rfl (.tmp 28) (.tmp 29) 36 rfl w.heap.size 5 i5 (.int .u8 0) 1 1 Try.underlying36 hi5 hz5 hs5 hb5 rfl (by decide) _ _ _ rfl (o0.alloc _) ⟨wc.heap.size, 0, none⟩ 2 2 [.int .u8 47, .int .u8 47] rfl rfl (cell_two_new _ _ _ _) (two_bytesB _ _) (mlB _ (by simp; omega)) (by simp; omega) (size_allocB hB0 _) ?_)
      intro v1 w1 o1' g1 _
      obtain ⟨o1, bl1, hB1⟩ := own_bytes (news := [47, 47]) 2 rfl rfl bl0 hB0 o0 o1' g1
      clear o1' g1
      have hl1 : (acc ++ [47, 47] : List UInt8).length ≤ sc.size + 3 := by simp; omega
      go_wp2_with (at_builtin; refine Lib.wpList_append_own_string _ rfl (.tmp 31) (.tmp 32) 36 9 rfl w.heap.size 5 i5 Try.underlying36 Try.underlying9 hi5 hz5 hs5 hb5 _ _ _ rfl o1 au rfl (mlB _ (by omega)) (by omega) hB1 ?_)
      intro v2 w2 o2' g2 _
      obtain ⟨o2, bl2, hB2⟩ := own_str (s := au) bl1 hB1 o1 (by simpa using o2') g2
      clear o2' g2 o1 bl1 hB1
      go_wp2
      go_meet
      case rel => exact ⟨rfl, _, o2, bl2, hB2, by simp; omega, by show _ = _; simp [Pl.joinB, PB]⟩
    | false =>
      go_wp2
      go_meet
      case rel => exact ⟨rfl, acc, o0, bl0, hB0, by omega, by show _ = _; simp [Pl.joinB, PB]⟩
  case rest =>
  obtain ⟨rfl, acc2, o2, bl2, hB2, hl2, HA2⟩ := hcut
  clear o0 bl0 hB0
  go_wp2_with (at_builtin; refine Lib.wpList_append_own_string _ rfl (.tmp 34) (.tmp 35) 36 9 rfl w.heap.size 5 i5 Try.underlying36 Try.underlying9 hi5 hz5 hs5 hb5 _ _ _ rfl o2 pa rfl (mlB _ (by omega)) (by omega) hB2 ?_)
  intro v3 w3 o3' g3 _
  obtain ⟨o3, bl3, hB3⟩ := own_str bl2 hB2 o2 o3' g3
  clear o3' g3 o2 bl2 hB2
  obtain ⟨acc3, hacc3⟩ : ∃ a, a = acc2 ++ pa.data.toList := ⟨_, rfl⟩
  rw [← hacc3] at o3
  have hl3 : acc3.length ≤ sc.size + au.size + pa.size + 3 := by rw [hacc3, List.length_append, ← Pl.size_toList]; omega
  have HA3 : Hid (acc3 = acc2 ++ pa.data.toList) := hacc3
  clear hacc3
  go_upto_if 37 with fail
  go_cut [7, 19] (fun v7 v wx => v7 = .bool b3 ∧ ∃ acc4 : List UInt8, wx.ownsRow w.heap.size 5 1 v acc4.length (Lib.byteCells acc4) ∧ Below w.heap.size w wx ∧ w.heap.size ≤ wx.heap.size ∧ acc4.length ≤ sc.size + au.size + pa.size + qu.size + 4 ∧ Hid (acc4 = acc3 ++ Pl.joinQ (PB sc au pa qu fr b1 b2 b3 b4)))
  case first =>
    cases b3 with
    | true =>
      go_wp2_with (at_builtin; refine wpList_append_own _ rfl (.tmp 38) (.tmp 39) 36 rfl w.heap.size 5 i5 (.int .u8 0) 1 1 Try.underlying36 hi5 hz5 hs5 hb5 rfl (by decide) _ _ _ rfl (o3.alloc _) ⟨w3.heap.size, 0, none⟩ 1 1 [.int .u8 63] rfl rfl (cell_one_new _ _ _) (one_byteB _) (mlB _ (by simp; omega)) (by simp; omega) (size_allocB hB3 _) ?_)
      intro v4 w4 o4' g4 _
      obtain ⟨o4, bl4, hB4⟩ := own_bytes (news := [63]) 1 rfl rfl bl3 hB3 o3 o4' g4
      clear o4' g4
      have hl4 : (acc3 ++ [63] : List UInt8).length ≤ sc.size + au.size + pa.size + 4 := by simp; omega
      go_wp2_with (at_builtin; refine Lib.wpList_append_own_string _ rfl (.tmp 41) (.tmp 42) 36 9 rfl w.heap.size 5 i5 Try.underlying36 Try.underlying9 hi5 hz5 hs5 hb5 _ _ _ rfl o4 qu rfl (mlB _ (by omega)) (by omega) hB4 ?_)
      intro v5 w5 o5' g5 _
      obtain ⟨o5, bl5, hB5⟩ := own_str (s := qu) bl4 hB4 o4 (by simpa using o5') g5
      clear o5' g5 o4 bl4 hB4
      go_wp2
      go_meet
      case rel => exact ⟨rfl, _, o5, bl5, hB5, by simp; omega, by show _ = _; simp [Pl.joinQ, PB]⟩
    | false =>
      go_wp2
      go_meet
      case rel => exact ⟨rfl, acc3, o3, bl3, hB3, by omega, by show _ = _; simp [Pl.joinQ, PB]⟩
  case rest =>
  obtain ⟨rfl, acc4, o4, bl4, hB4, hl4, HA4⟩ := hcut
  clear o3 bl3 hB3
  go_upto_if 44 with fail
  go_cut [8, 19] (fun v8 v wx => v8 = .bool b4 ∧ ∃ acc5 : List UInt8, wx.ownsRow w.heap.size 5 1 v acc5.length (Lib.byteCells acc5) ∧ Below w.heap.size w wx ∧ Hid (acc5 = acc4 ++ Pl.joinH (PB sc au pa qu fr b1 b2 b3 b4)))
  case first =>
    cases b4 with
    | true =>
      go_wp2_with (at_builtin; refine wpList_append_own _ rfl (.tmp 45) (.tmp 46) 36 rfl w.heap.size 5 i5 (.int .u8 0) 1 1 Try.underlying36 hi5 hz5 hs5 hb5 rfl (by decide) _ _ _ rfl (o4.alloc _) ⟨wc.heap.size, 0, none⟩ 1 1 [.int .u8 35] rfl rfl (cell_one_new _ _ _) (one_byteB _) (mlB _ (by simp; omega)) (by simp; omega) (size_allocB hB4 _) ?_)
      intro v5 w5 o5' g5 _
      obtain ⟨o5, bl5, hB5⟩ := own_bytes (news := [35]) 1 rfl rfl bl4 hB4 o4 o5' g5
      clear o5' g5
      have hl5 : (acc4 ++ [35] : List UInt8).length ≤ sc.size + au.size + pa.size + qu.size + 5 := by simp; omega
      go_wp2_with (at_builtin; refine Lib.wpList_append_own_string _ rfl (.tmp 48) (.tmp 49) 36 9 rfl w.heap.size 5 i5 Try.underlying36 Try.underlying9 hi5 hz5 hs5 hb5 _ _ _ rfl o5 fr rfl (mlB _ (by omega)) (by omega) hB5 ?_)
      intro v6 w6 o6' g6 _
      obtain ⟨o6, bl6, hB6⟩ := own_str (s := fr) bl5 hB5 o5 (by simpa using o6') g6
      clear o6' g6 o5 bl5 hB5
      go_wp2
      go_meet
      case rel => exact ⟨rfl, _, o6, bl6, by show _ = _; simp [Pl.joinH, PB]⟩
    | false =>
      go_wp2
      go_meet
      case rel => exact ⟨rfl, acc4, o4, bl4, by show _ = _; simp [Pl.joinH, PB]⟩
  case rest =>
  obtain ⟨rfl, acc5, o5, bl5, HA5⟩ := hcut
  have HJ : Hid (acc5 = Pl.join (PB sc au pa qu fr b1 b2 b3 b4)) := by
    show _ = _
    rw [HA5.out, HA4.out, HA3.out, HA2.out, HA.out]
    rfl
  have hcv := ownB_string o5
  go_wp2
  go_ret
  exact ⟨ret_strB HJ.out, bl5⟩

end Go.Proofs.Qxb6605311a
