/-
  The walk of (*strings.Builder).Reset (35) and of removeDotSegments (29).
-/
import Derived.Test.Qxb6605311aWalkB
import Derived.Test.Qxb6605311aPlainC
namespace Go.Proofs.Qxb6605311a
open Go.RowKit
set_option linter.unusedVariables false

set_option maxHeartbeats 400000 in
theorem reset_any (B b : Nat) (bs : List Value) (w : World) (h : Lib.IsBuilderF 43 5 B b bs w) :
    Calls Try.prog 35 #[.pointer (some ⟨b, 0, none⟩)] w fun e w' => e = .returned (.tuple #[]) ∧ Lib.IsBuilderF 43 5 B b [] w' ∧ Below B w w' := by
  obtain ⟨hB, p, v, hb⟩ : B ≤ b ∧ ∃ p v, w.heap[b]? = some (.cells #[p, v] 43 (0, 0)) := by
    rcases h with ⟨hB, v, hb, _⟩ | ⟨hB, v, hb, _⟩ <;> exact ⟨hB, _, v, hb⟩
  have c0 : w.cell? ⟨b, 0, none⟩ = some p := by simp [World.cell?, hb]
  have c1 : w.cell? ⟨b, 1, none⟩ = some v := by simp [World.cell?, hb]
  have f0 : w.frozen? ⟨b, 0, none⟩ = false := by simp [World.frozen?, hb]
  have f1 : w.frozen? ⟨b, 1, none⟩ = false := by simp [World.frozen?, hb]
  have hsh : w.shape? b = some (43, 2) := by simp [World.shape?, hb]
  have hlt : b < w.heap.size := (Array.getElem?_eq_some_iff.1 hb).1
  have HB : Hid (w.heap[b]? = some (.cells #[p, v] 43 (0, 0))) := hb
  clear hb h
  go_enter Try.func35, Try.ntmps35
  go_wp2
  go_end0
  refine ⟨rfl, .inl ⟨hB, .slice none 0 0, ?_, ⟨by simp, .inl ⟨rfl, rfl⟩⟩, by simp [Value.ownBlock]⟩, ((Below.refl _ _).setCell hB _).setCell hB _⟩
  have := HB.out
  simp [World.setCell, Array.getElem?_modify, this]


/-! The library's contracts, in the words of these walks -/
theorem cHasPrefix (s p : ByteArray) (w : World) :
    Calls Try.prog 33 #[.string s, .string p] w fun e w' => e = .returned (.bool (Lib.hasPrefix s.data.toList p.data.toList)) ∧ w = w' :=
  (Try.strings_HasPrefix s p w).mono fun _ _ h => ⟨h.1, h.2.symm⟩

theorem cIndexByte (s : ByteArray) (c : Int) (w : World) (n : Int) (h : Lib.indexByte s.data.toList (UInt8.ofNat c.toNat) = n) :
    Calls Try.prog 38 #[.string s, .int .u8 c] w fun e w' => e = .returned (.int .i64 n) ∧ w = w' :=
  (Try.strings_IndexByte s c w).mono fun _ _ k => ⟨by rw [k.1, ← h], k.2.symm⟩

theorem cLastIndexByte (s : ByteArray) (c : Int) (w : World) (n : Int) (hs : s.size < 4611686018427387904) (h : Lib.lastIndexByte s c = n) :
    Calls Try.prog 37 #[.string s, .int .u8 c] w fun e w' => e = .returned (.int .i64 n) ∧ w = w' :=
  (Try.strings_LastIndexByte s c hs w).mono fun _ _ k => ⟨by rw [k.1, ← h], k.2.symm⟩

theorem cWriteString (B b : Nat) (acc : List UInt8) (s : ByteArray) (w : World) (h : Lib.IsBuilderF 43 5 B b (Lib.byteCells acc) w) (hlen : acc.length + s.size ≤ 140737488355328) (hBw : B ≤ w.heap.size) :
    Calls Try.prog 36 #[.pointer (some ⟨b, 0, none⟩), .string s] w fun e w' => e = .returned (.tuple #[.int .i64 s.size, .nilIface]) ∧ Lib.IsBuilderF 43 5 B b (Lib.byteCells (acc ++ s.data.toList)) w' ∧ Below B w w' := by
  refine (Try.Builder_WriteString_k B b (Lib.byteCells acc) s w h (by rw [Lib.byteCells_length]; exact hlen) hBw).mono fun e w' k => ⟨k.1, ?_, k.2.2.1⟩
  have := k.2.1
  rw [Lib.strCells_eq, ← Lib.byteCells_append] at this
  exact .inr this

theorem cWriteByte (B b : Nat) (acc : List UInt8) (c : Int) (w : World) (h : Lib.IsBuilderF 43 5 B b (Lib.byteCells acc) w) (h0 : 0 ≤ c) (h1 : c < 256) (hlen : acc.length + 1 ≤ 140737488355328) (hBw : B ≤ w.heap.size) :
    Calls Try.prog 41 #[.pointer (some ⟨b, 0, none⟩), .int .u8 c] w fun e w' => e = .returned .nilIface ∧ Lib.IsBuilderF 43 5 B b (Lib.byteCells (acc ++ [UInt8.ofNat c.toNat])) w' ∧ Below B w w' := by
  refine (Try.Builder_WriteByte_k B b (Lib.byteCells acc) c w h (by rw [Lib.byteCells_length]; exact hlen) hBw).mono fun e w' k => ⟨k.1, ?_, k.2.2.1⟩
  have := k.2.1
  rw [Lib.byteCells_append]
  have e1 : Lib.byteCells [UInt8.ofNat c.toNat] = [.int .u8 c] := by
    have : ((UInt8.ofNat c.toNat).toNat : Int) = c := (byte_eq _ c h0 h1).2 rfl
    simp only [Lib.byteCells, List.map_cons, List.map_nil, this]
  rw [e1]
  exact .inr this

theorem cString (B b : Nat) (acc : List UInt8) (w : World) (h : Lib.IsBuilderF 43 5 B b (Lib.byteCells acc) w) (hBw : B ≤ w.heap.size) :
    Calls Try.prog 34 #[.pointer (some ⟨b, 0, none⟩)] w fun e w' => e = .returned (.string ⟨acc.toArray⟩) ∧ Lib.IsBuilderF 43 5 B b (Lib.byteCells acc) w' ∧ Below B w w' :=
  (Try.Builder_String_any_k B b acc w h hBw).mono fun _ _ k => ⟨k.1, k.2.1, k.2.2.1⟩

def strLen : Value → Nat | .string s => s.size | _ => 0

set_option maxHeartbeats 2000000 in
theorem removeDots_any (s : ByteArray) (w : World) (hs : s.size ≤ 1048576) :
    Calls Try.prog 29 #[.string s] w fun e w' => e = .returned (.string ⟨(Pl.rd s.data.toList).toArray⟩) ∧ Below w.heap.size w w' := by
  go_enter Try.func29, Try.ntmps29
  go_wp2
  go_loopw [0] (fun inp wr => ∃ (t : ByteArray) (acc : List UInt8), inp = .string t ∧ acc.length + t.size ≤ 1048576 ∧ Lib.IsBuilderF 43 5 w.heap.size w.heap.size (Lib.byteCells acc) wr ∧ Below w.heap.size w wr ∧ Hid (Pl.rdFrom t.data.toList acc = Pl.rd s.data.toList)) (fun inp _ => strLen inp)
  case atStart =>
    exact ⟨s, [], rfl, by simpa using hs, Lib.IsBuilderF.of (Lib.fresh_isBuilder 43 5 w), (Below.refl _ w).alloc (Nat.le_refl _) _, rfl⟩
  case round =>
    obtain ⟨t, acc, rfl, hle, hI, hbw, hR⟩ := hrel
    have hsz := hbw.size
    cases h0 : t.toList.isEmpty with
    | true =>
      go_wp2_with (go_at_call 34; refine (cString _ _ acc _ hI hsz).mono ?_)
      rintro e W1 ⟨rfl, h1, b1⟩
      go_wp2
      go_ret
      have := hR.out
      rw [Pl.stepN acc h0] at this
      rw [← this]
      exact ⟨rfl, hbw.trans b1⟩
    | false =>
    cases h1 : Lib.hasPrefix t.data.toList [46, 46, 47] with
    | true =>
      obtain ⟨k1, k2⟩ := Pl.stepA1 acc h1
      have HH : Hid (Pl.rdFrom (t.extract 3 t.size).data.toList acc = Pl.rd s.data.toList ∧ (t.extract 3 t.size).size = t.size - 3) := ⟨k2.trans hR.out, Pl.ex_end_size t 3⟩
      clear k2
      go_wp2_with (go_at_call 33; refine (cHasPrefix _ _ _).mono ?_; rintro e w' ⟨rfl, rfl⟩)
      exact ⟨⟨t.extract 3 t.size, acc, rfl, by rw [HH.out.2]; omega, hI, hbw, HH.out.1⟩, by show (t.extract 3 t.size).size < t.size; rw [HH.out.2]; omega⟩
    | false =>
    cases h2 : Lib.hasPrefix t.data.toList [46, 47] with
    | true =>
      obtain ⟨k1, k2⟩ := Pl.stepA2 acc h2
      have HH : Hid (Pl.rdFrom (t.extract 2 t.size).data.toList acc = Pl.rd s.data.toList ∧ (t.extract 2 t.size).size = t.size - 2) := ⟨k2.trans hR.out, Pl.ex_end_size t 2⟩
      clear k2
      go_wp2_with (go_at_call 33; refine (cHasPrefix _ _ _).mono ?_; rintro e w' ⟨rfl, rfl⟩)
      exact ⟨⟨t.extract 2 t.size, acc, rfl, by rw [HH.out.2]; omega, hI, hbw, HH.out.1⟩, by show (t.extract 2 t.size).size < t.size; rw [HH.out.2]; omega⟩
    | false =>
    cases h3 : Lib.hasPrefix t.data.toList [47, 46, 47] with
    | true =>
      obtain ⟨k1, k2⟩ := Pl.stepB1 acc h3
      have HH : Hid (Pl.rdFrom (t.extract 2 t.size).data.toList acc = Pl.rd s.data.toList ∧ (t.extract 2 t.size).size = t.size - 2) := ⟨k2.trans hR.out, Pl.ex_end_size t 2⟩
      clear k2
      go_wp2_with (go_at_call 33; refine (cHasPrefix _ _ _).mono ?_; rintro e w' ⟨rfl, rfl⟩)
      exact ⟨⟨t.extract 2 t.size, acc, rfl, by rw [HH.out.2]; omega, hI, hbw, HH.out.1⟩, by show (t.extract 2 t.size).size < t.size; rw [HH.out.2]; omega⟩
    | false =>
    cases h4 : t.toList == [47, 46] with
    | true =>
      obtain ⟨k1, k2⟩ := Pl.stepB2 acc h4
      have HH : Hid (Pl.rdFrom [47] acc = Pl.rd s.data.toList) := k2.trans hR.out
      clear k2
      go_wp2_with (go_at_call 33; refine (cHasPrefix _ _ _).mono ?_; rintro e w' ⟨rfl, rfl⟩)
      exact ⟨⟨⟨#[47]⟩, acc, rfl, by show acc.length + 1 ≤ _; omega, hI, hbw, HH.out⟩, by show 1 < t.size; omega⟩
    | false =>
    cases h5 : Lib.hasPrefix t.data.toList [47, 46, 46, 47] with
    | true =>
      obtain ⟨k0, k1, k2⟩ := Pl.stepC acc (.inl h5)
      obtain ⟨n, n1, n2, n3, n4, n5⟩ := Pl.last_pop acc
      have HH : Hid (Pl.rdFrom ({ data := #[47] } ++ t.extract (min 4 (t.size : Int)).toNat t.size : ByteArray).data.toList (Pl.pop acc) = Pl.rd s.data.toList ∧ Lib.lastIndexByte ⟨acc.toArray⟩ 47 = n ∧ acc.take (max n 0).toNat = Pl.pop acc) := ⟨k2.trans hR.out, n1, n5⟩
      have HS : Hid (({ data := #[47] } ++ t.extract (min 4 (t.size : Int)).toNat t.size : ByteArray).size + 2 ≤ t.size) := k1
      clear k1 k2 n1 n5
      have hal : (⟨acc.toArray⟩ : ByteArray).size = acc.length := rfl
      go_wp2_with (go_at_call 33; refine (cHasPrefix _ _ _).mono ?_; rintro e w' ⟨rfl, rfl⟩)
      refine (cString _ _ acc _ hI hsz).mono ?_
      rintro e W1 ⟨rfl, i1, b1⟩
      go_wp2_with fail
      refine (reset_any _ _ _ _ i1).mono ?_
      rintro e W2 ⟨rfl, i2, b2⟩
      go_wp2_with (go_at_call 37; refine (cLastIndexByte _ _ _ n (by rw [hal]; omega) HH.out.2.1).mono ?_; rintro e w' ⟨rfl, rfl⟩)
      have hpl : Hid (((⟨acc.toArray⟩ : ByteArray).extract 0 (max n 0).toNat).data.toList = Pl.pop acc) := (Pl.ex_start _ _).trans HH.out.2.2
      have hps : Hid (((⟨acc.toArray⟩ : ByteArray).extract 0 (max n 0).toNat).size ≤ acc.length) := by
        show _ ≤ _
        rw [Pl.size_toList, hpl.out]; exact Pl.pop_le acc
      refine (cWriteString _ _ [] _ _ i2 (by have := hps.out; simp only [List.length_nil]; omega) (by have := b1.size; have := b2.size; omega)).mono ?_
      rintro e W3 ⟨rfl, i3, b3⟩
      rw [List.nil_append, hpl.out] at i3
      go_wp2
      have := HS.out
      have := Pl.pop_le acc
      exact ⟨⟨_, Pl.pop acc, rfl, by omega, i3, hbw.trans (b1.trans (b2.trans b3)), HH.out.1⟩, by show ({ data := #[47] } ++ t.extract (min 4 (t.size : Int)).toNat t.size : ByteArray).size < t.size; omega⟩
    | false =>
    cases h6 : t.toList == [47, 46, 46] with
    | true =>
      obtain ⟨k0, k1, k2⟩ := Pl.stepC acc (.inr h6)
      obtain ⟨n, n1, n2, n3, n4, n5⟩ := Pl.last_pop acc
      have HH : Hid (Pl.rdFrom ({ data := #[47] } ++ t.extract (min 4 (t.size : Int)).toNat t.size : ByteArray).data.toList (Pl.pop acc) = Pl.rd s.data.toList ∧ Lib.lastIndexByte ⟨acc.toArray⟩ 47 = n ∧ acc.take (max n 0).toNat = Pl.pop acc) := ⟨k2.trans hR.out, n1, n5⟩
      have HS : Hid (({ data := #[47] } ++ t.extract (min 4 (t.size : Int)).toNat t.size : ByteArray).size + 2 ≤ t.size) := k1
      clear k1 k2 n1 n5
      have hal : (⟨acc.toArray⟩ : ByteArray).size = acc.length := rfl
      go_wp2_with (go_at_call 33; refine (cHasPrefix _ _ _).mono ?_; rintro e w' ⟨rfl, rfl⟩)
      refine (cString _ _ acc _ hI hsz).mono ?_
      rintro e W1 ⟨rfl, i1, b1⟩
      go_wp2_with fail
      refine (reset_any _ _ _ _ i1).mono ?_
      rintro e W2 ⟨rfl, i2, b2⟩
      go_wp2_with (go_at_call 37; refine (cLastIndexByte _ _ _ n (by rw [hal]; omega) HH.out.2.1).mono ?_; rintro e w' ⟨rfl, rfl⟩)
      have hpl : Hid (((⟨acc.toArray⟩ : ByteArray).extract 0 (max n 0).toNat).data.toList = Pl.pop acc) := (Pl.ex_start _ _).trans HH.out.2.2
      have hps : Hid (((⟨acc.toArray⟩ : ByteArray).extract 0 (max n 0).toNat).size ≤ acc.length) := by
        show _ ≤ _
        rw [Pl.size_toList, hpl.out]; exact Pl.pop_le acc
      refine (cWriteString _ _ [] _ _ i2 (by have := hps.out; simp only [List.length_nil]; omega) (by have := b1.size; have := b2.size; omega)).mono ?_
      rintro e W3 ⟨rfl, i3, b3⟩
      rw [List.nil_append, hpl.out] at i3
      go_wp2
      have := HS.out
      have := Pl.pop_le acc
      exact ⟨⟨_, Pl.pop acc, rfl, by omega, i3, hbw.trans (b1.trans (b2.trans b3)), HH.out.1⟩, by show ({ data := #[47] } ++ t.extract (min 4 (t.size : Int)).toNat t.size : ByteArray).size < t.size; omega⟩
    | false =>
    cases h7 : t.toList == [46] with
    | true =>
      obtain ⟨k1, k2⟩ := Pl.stepD acc (.inl h7)
      have HH : Hid (Pl.rdFrom [] acc = Pl.rd s.data.toList) := k2.trans hR.out
      clear k2
      go_wp2_with (go_at_call 33; refine (cHasPrefix _ _ _).mono ?_; rintro e w' ⟨rfl, rfl⟩)
      exact ⟨⟨⟨#[]⟩, acc, rfl, by show acc.length + 0 ≤ _; omega, hI, hbw, HH.out⟩, by show 0 < t.size; omega⟩
    | false =>
    cases h8 : t.toList == [46, 46] with
    | true =>
      obtain ⟨k1, k2⟩ := Pl.stepD acc (.inr h8)
      have HH : Hid (Pl.rdFrom [] acc = Pl.rd s.data.toList) := k2.trans hR.out
      clear k2
      go_wp2_with (go_at_call 33; refine (cHasPrefix _ _ _).mono ?_; rintro e w' ⟨rfl, rfl⟩)
      exact ⟨⟨⟨#[]⟩, acc, rfl, by show acc.length + 0 ≤ _; omega, hI, hbw, HH.out⟩, by show 0 < t.size; omega⟩
    | false =>
    obtain ⟨k1, k2⟩ := Pl.stepE_field h0 h1 h2 h3 h4 h5 h6 h7 h8
    rcases k2 with ⟨kx, kr⟩ | ⟨n, kn, kx, kr⟩
    · have HH : Hid (Lib.indexByte (t.extract 1 t.size).data.toList 47 = -1 ∧ acc ++ t.data.toList = Pl.rd s.data.toList) := ⟨kx, (kr acc).symm.trans hR.out⟩
      clear kx kr
      go_wp2_with (first | (go_at_call 33; refine (cHasPrefix _ _ _).mono ?_; rintro e w' ⟨rfl, rfl⟩) | (go_at_call 38; refine (cIndexByte _ _ _ (-1) HH.out.1).mono ?_; rintro e w' ⟨rfl, rfl⟩))
      refine (cWriteString _ _ acc _ _ hI (by omega) hsz).mono ?_
      rintro e W1 ⟨rfl, i1, b1⟩
      go_wp2
      refine ⟨⟨ByteArray.empty, acc ++ t.data.toList, rfl, ?_, i1, hbw.trans b1, ?_⟩, ?_⟩
      · rw [List.length_append, ← Pl.size_toList]; exact hle
      · rw [← HH.out.2]; exact Pl.rd_nil _
      · show 0 < t.size; omega
    · have HH : Hid (Lib.indexByte (t.extract 1 t.size).data.toList 47 = (n : Int) ∧ Pl.rdFrom (t.extract (n + 1) t.size).data.toList (acc ++ t.data.toList.take (n + 1)) = Pl.rd s.data.toList) := ⟨kx, (kr acc).symm.trans hR.out⟩
      clear kx kr
      have hen : Hid ((t.extract 0 (n + 1)).size = n + 1) := Pl.ex_start_size t (n + 1) (by omega)
      have hes : Hid ((t.extract (n + 1) t.size).size = t.size - (n + 1)) := Pl.ex_end_size t (n + 1)
      go_wp2_with (first | (go_at_call 33; refine (cHasPrefix _ _ _).mono ?_; rintro e w' ⟨rfl, rfl⟩) | (go_at_call 38; refine (cIndexByte _ _ _ (n : Int) HH.out.1).mono ?_; rintro e w' ⟨rfl, rfl⟩))
      refine (cWriteString _ _ acc _ _ hI (by rw [hen.out]; omega) hsz).mono ?_
      rintro e W1 ⟨rfl, i1, b1⟩
      go_wp2
      rw [Pl.ex_start] at i1
      refine ⟨⟨t.extract (n + 1) t.size, acc ++ t.data.toList.take (n + 1), rfl, ?_, i1, hbw.trans b1, HH.out.2⟩, ?_⟩
      · rw [hes.out, List.length_append, List.length_take, ← Pl.size_toList]; omega
      · show (t.extract (n + 1) t.size).size < t.size; rw [hes.out]; omega

end Go.Proofs.Qxb6605311a
