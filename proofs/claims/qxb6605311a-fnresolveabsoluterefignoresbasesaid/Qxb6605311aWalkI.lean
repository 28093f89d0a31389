/-
  The walks of merge (42), resolve (32) and ZZresolve (23).
-/
import Derived.Test.Qxb6605311aWalkH
import Derived.Test.Qxb6605311aPlainG
import Derived.BigRegion
namespace Go.Proofs.Qxb6605311a
open Go.RowKit
set_option linter.unusedVariables false

theorem last_bd (s : ByteArray) : ∃ n : Int, Hid (Lib.lastIndexByte s 47 = n) ∧ -1 ≤ n ∧ n < s.size ∧ Hid ((s.extract 0 (n + 1).toNat).data.toList = Pl.dirOf s.data.toList) := by
  obtain ⟨n, h1, h2, h3, h4⟩ := Pl.dir_walk s.data.toList
  rw [Lib.mk_data] at h1
  rw [← Pl.size_toList] at h3
  refine ⟨n, h1, h2, h3, ?_⟩
  show _ = _
  rw [Pl.ex_start]
  exact h4

theorem app_data (a b : ByteArray) : (a ++ b).data.toList = a.data.toList ++ b.data.toList := by
  rw [ByteArray.data_append, Array.toList_append]

theorem mk_of {s : ByteArray} {l : List UInt8} (h : s.data.toList = l) : s = ⟨l.toArray⟩ := by rw [← h, Lib.mk_data]

set_option maxHeartbeats 1000000 in
set_option maxRecDepth 10000 in
theorem merge_any (sc au pa qu fr path : ByteArray) (b1 b2 b3 b4 : Bool) (w : World) (h1 : pa.size ≤ 1048576) (h2 : path.size ≤ 1048576) :
    Calls Try.prog 42 #[.agg #[.string sc, .string au, .string pa, .string qu, .string fr, .bool b1, .bool b2, .bool b3, .bool b4], .string path] w fun e w' => ∃ m : ByteArray, e = .returned (.string m) ∧ m.data.toList = Pl.mergeL b2 pa.data.toList path.data.toList ∧ Below w.heap.size w w' := by
  obtain ⟨n, HN, na, nb, HD⟩ := last_bd pa
  have hs : pa.size < 4611686018427387904 := by omega
  have bl0 : Below w.heap.size w (w.alloc (.cells #[.string sc, .string au, .string pa, .string qu, .string fr, .bool b1, .bool b2, .bool b3, .bool b4] 38)) := (Below.refl _ w).alloc (Nat.le_refl _) _
  have hex : (pa.extract 0 (n + 1).toNat).size ≤ 1048577 := by rw [Pl.ex_start_size _ _ (by omega)]; omega
  cases b2 with
  | true =>
    cases he : pa.toList.isEmpty with
    | true =>
      have HM : Hid (({ data := #[47] } ++ path : ByteArray).data.toList = Pl.mergeL true pa.data.toList path.data.toList) := by
        show _ = _
        rw [app_data, Pl.empty_data he]
        rfl
      go_enter Try.func42, Try.ntmps42
      go_wp2
      go_ret
      exact ⟨_, rfl, HM.out, bl0⟩
    | false =>
      have HM : Hid ((pa.extract 0 (n + 1).toNat ++ path : ByteArray).data.toList = Pl.mergeL true pa.data.toList path.data.toList) := by
        show _ = _
        have he' : pa.data.toList.isEmpty = false := by rw [← Lib.toList_data]; exact he
        rw [app_data, HD.out]
        unfold Pl.mergeL
        rw [he']
        rfl
      go_enter Try.func42, Try.ntmps42
      go_wp2
      go_quiet ((go_at_call 37; exact Calls.quiet_of_same ((cLastIndexByte _ 47 _ n hs HN.out).mono fun _ _ k => ⟨k.1, k.2.symm⟩)))
      go_wp2
      go_ret
      exact ⟨_, rfl, HM.out, below_drewN bl0 _⟩
  | false =>
    have HM : Hid ((pa.extract 0 (n + 1).toNat ++ path : ByteArray).data.toList = Pl.mergeL false pa.data.toList path.data.toList) := by
      show _ = _
      rw [app_data, HD.out]
      rfl
    go_enter Try.func42, Try.ntmps42
    go_wp2
    go_quiet ((go_at_call 37; exact Calls.quiet_of_same ((cLastIndexByte _ 47 _ n hs HN.out).mono fun _ _ k => ⟨k.1, k.2.symm⟩)))
    go_wp2
    go_ret
    exact ⟨_, rfl, HM.out, below_drewN bl0 _⟩

/-- Two structs in memory: that of the reference at rb, that of the target at tb. -/
structure Two (w wx : World) (rb tb : Nat) (r t : Array Value) : Prop where
  below : Below w.heap.size w wx
  hr : wx.heap[rb]? = some (.cells r 38 (0, 0))
  ht : wx.heap[tb]? = some (.cells t 38 (0, 0))
  lr : w.heap.size ≤ rb
  lt : rb < tb

theorem Two.cr {w wx : World} {rb tb : Nat} {r t : Array Value} (h : Two w wx rb tb r t) (j : Nat) : wx.cell? ⟨rb, j, none⟩ = r[j]? := by simp [World.cell?, h.hr]
theorem Two.ct {w wx : World} {rb tb : Nat} {r t : Array Value} (h : Two w wx rb tb r t) (j : Nat) : wx.cell? ⟨tb, j, none⟩ = t[j]? := by simp [World.cell?, h.ht]
theorem Two.ft {w wx : World} {rb tb : Nat} {r t : Array Value} (h : Two w wx rb tb r t) (j : Nat) : wx.frozen? ⟨tb, j, none⟩ = false := by simp [World.frozen?, h.ht]
theorem Two.sz {w wx : World} {rb tb : Nat} {r t : Array Value} (h : Two w wx rb tb r t) : tb < wx.heap.size := (Array.getElem?_eq_some_iff.1 h.ht).1
theorem Two.next {w wx w1 : World} {rb tb : Nat} {r t : Array Value} (h : Two w wx rb tb r t) (k : Below wx.heap.size wx w1) : Two w w1 rb tb r t := by
  have hs := h.sz
  have hl := h.lt
  have hb := h.below.size
  exact ⟨h.below.trans (k.mono hb), (k.block rb (by omega)).trans h.hr, (k.block tb hs).trans h.ht, h.lr, h.lt⟩
theorem Two.drew {w wx : World} {rb tb : Nat} {r t : Array Value} (h : Two w wx rb tb r t) : Two w wx.drew rb tb r t := ⟨h.below.drew, h.hr, h.ht, h.lr, h.lt⟩
theorem Two.set {w wx : World} {rb tb : Nat} {r t : Array Value} (h : Two w wx rb tb r t) (j : Nat) (v : Value) : Two w (wx.setCell ⟨tb, j, none⟩ v) rb tb r (t.setIfInBounds j v) := by
  have hl := h.lt
  have hlr := h.lr
  refine ⟨h.below.setCell (by show w.heap.size ≤ tb; omega) v, ?_, ?_, h.lr, h.lt⟩
  · rw [Below.heap_setCell _ _ _ _ (by show rb ≠ tb; omega)]; exact h.hr
  · simp [World.setCell, Array.getElem?_modify, h.ht]

theorem Boxed.frozen {w wx : World} {sc au pa qu fr : ByteArray} {b1 b2 b3 b4 : Bool} (h : Boxed w wx sc au pa qu fr b1 b2 b3 b4) (j : Nat) : wx.frozen? ⟨w.heap.size, j, none⟩ = false := by
  rw [h.below.frozen (p := ⟨w.heap.size, j, none⟩) (by show w.heap.size < _; omega)]
  have : (w.alloc (.cells #[.string sc, .string au, .string pa, .string qu, .string fr, .bool b1, .bool b2, .bool b3, .bool b4] 38)).heap[w.heap.size]? = some (.cells #[.string sc, .string au, .string pa, .string qu, .string fr, .bool b1, .bool b2, .bool b3, .bool b4] 38 (0, 0)) := by
    show (w.heap.push _)[w.heap.size]? = _
    exact Array.getElem?_push_size
  simp only [World.frozen?, this]
  simp
theorem Boxed.of {w wx : World} {sc au pa qu fr : ByteArray} {b1 b2 b3 b4 : Bool} (h : Below (w.alloc (.cells #[.string sc, .string au, .string pa, .string qu, .string fr, .bool b1, .bool b2, .bool b3, .bool b4] 38)).heap.size (w.alloc (.cells #[.string sc, .string au, .string pa, .string qu, .string fr, .bool b1, .bool b2, .bool b3, .bool b4] 38)) wx) : Boxed w wx sc au pa qu fr b1 b2 b3 b4 :=
  ⟨h.mono (by simp)⟩

theorem join_le {p : Pl.Parts} {n : Nat} (h : p.sc.length + p.au.length + p.pa.length + p.qu.length + p.fr.length ≤ n) : (Pl.join p).length ≤ n + 5 := by
  have := Pl.join_len p
  omega

theorem bsize (l : List UInt8) : (⟨l.toArray⟩ : ByteArray).size = l.length := rfl
theorem bdata (l : List UInt8) : (⟨l.toArray⟩ : ByteArray).data.toList = l := rfl

set_option maxHeartbeats 4000000 in
set_option maxRecDepth 10000 in
theorem resolve_any (base ref : ByteArray) (w : World) (hb : base.size ≤ 300000) (hr : ref.size ≤ 300000) :
    Calls Try.prog 32 #[.string base, .string ref] w fun e w' => e = .returned (.string ⟨(Pl.resolveL base.data.toList ref.data.toList).toArray⟩) ∧ Below w.heap.size w w' := by
  go_enter Try.func32, Try.ntmps32
  go_wp2_with fail
  refine (splitIRI_any ref _ (by omega)).mono ?_
  rintro e W1 ⟨rsc, rau, rpa, rqu, rfr, rb1, rb2, rb3, rb4, rfl, hspR, bl1⟩
  have hpsR := Pl.part_sizes hspR
  simp only [← Pl.size_toList] at hpsR
  have HR : Hid (Pl.split ref.data.toList = PB rsc rau rpa rqu rfr rb1 rb2 rb3 rb4) := hspR
  clear hspR
  have hrd : (Pl.rd rpa.data.toList).length ≤ rpa.size := by
    have := Pl.rd_le rpa.data.toList
    rwa [← Pl.size_toList] at this
  obtain ⟨rp, HRP⟩ : ∃ rp : ByteArray, Hid (rp = ⟨(Pl.rd rpa.data.toList).toArray⟩) := ⟨_, rfl⟩
  have hrp : rp.size ≤ rpa.size := by rw [HRP.out]; exact hrd
  have HRD : Hid (rp.data.toList = Pl.rd rpa.data.toList) := by rw [HRP.out]; rfl
  clear hrd
  cases rb1 with
  | true =>
    go_wp2_with fail
    refine (removeDots_any _ _ (by omega)).mono ?_
    rw [← HRP.out]
    rintro e W2 ⟨rfl, bl2⟩
    have hbx : Boxed W1 W2 rsc rau rpa rqu rfr true rb2 rb3 rb4 := Boxed.of bl2
    have blw : Below w.heap.size w W2 := bl1.trans (hbx.old.mono bl1.size)
    have hsz : W1.heap.size < W2.heap.size := hbx.size
    have hw1 : w.heap.size ≤ W1.heap.size := bl1.size
    have c0 : W2.cell? ⟨W1.heap.size, 0, none⟩ = some (.string rsc) := hbx.cell 0
    have c1 : W2.cell? ⟨W1.heap.size, 1, none⟩ = some (.string rau) := hbx.cell 1
    have c2 : W2.cell? ⟨W1.heap.size, 2, none⟩ = some (.string rpa) := hbx.cell 2
    have c3 : W2.cell? ⟨W1.heap.size, 3, none⟩ = some (.string rqu) := hbx.cell 3
    have c4 : W2.cell? ⟨W1.heap.size, 4, none⟩ = some (.string rfr) := hbx.cell 4
    have c5 : W2.cell? ⟨W1.heap.size, 5, none⟩ = some (.bool true) := hbx.cell 5
    have c6 : W2.cell? ⟨W1.heap.size, 6, none⟩ = some (.bool rb2) := hbx.cell 6
    have c7 : W2.cell? ⟨W1.heap.size, 7, none⟩ = some (.bool rb3) := hbx.cell 7
    have c8 : W2.cell? ⟨W1.heap.size, 8, none⟩ = some (.bool rb4) := hbx.cell 8
    have cf2 : W2.frozen? ⟨W1.heap.size, 2, none⟩ = false := hbx.frozen 2
    clear bl2
    go_wp2_with fail
    refine (string_any _ _ _ _ _ _ _ _ _ _ (by omega)).mono ?_
    rintro e W3 ⟨rfl, bl3⟩
    go_wp2
    go_ret
    have HJ : Pl.join (PB rsc rau rp rqu rfr true rb2 rb3 rb4) = Pl.resolveL base.data.toList ref.data.toList := by
      unfold Pl.resolveL
      rw [HR.out]
      show _ = Pl.join (Pl.resolveP _ _)
      simp only [Pl.resolveP, PB, HRD.out, if_true]
    refine ⟨ret_strH HJ, ?_⟩
    have b4 := blw.setCell (p := ⟨W1.heap.size, 2, none⟩) (by show w.heap.size ≤ W1.heap.size; exact hw1) (.string rp)
    exact b4.trans (bl3.mono b4.size)
  | false =>
    go_wp2_with fail
    refine (splitIRI_any base _ (by omega)).mono ?_
    rintro e W2 ⟨tsc, tau, tpa, tqu, tfr, tb1, tb2, tb3, tb4, rfl, hspT, bl2⟩
    have hpsT := Pl.part_sizes hspT
    simp only [← Pl.size_toList] at hpsT
    have HT : Hid (Pl.split base.data.toList = PB tsc tau tpa tqu tfr tb1 tb2 tb3 tb4) := hspT
    clear hspT
    have hbx : Boxed W1 W2 rsc rau rpa rqu rfr false rb2 rb3 rb4 := Boxed.of bl2
    have hsz : W1.heap.size < W2.heap.size := hbx.size
    have hw1 : w.heap.size ≤ W1.heap.size := bl1.size
    obtain ⟨rb, hrb⟩ : ∃ rb, rb = W1.heap.size := ⟨_, rfl⟩
    obtain ⟨tb, htb⟩ : ∃ tb, tb = W2.heap.size := ⟨_, rfl⟩
    have T0 : Two w (W2.alloc (.cells #[.string tsc, .string tau, .string tpa, .string tqu, .string tfr, .bool tb1, .bool tb2, .bool tb3, .bool tb4] 38)) rb tb #[.string rsc, .string rau, .string rpa, .string rqu, .string rfr, .bool false, .bool rb2, .bool rb3, .bool rb4] #[.string tsc, .string tau, .string tpa, .string tqu, .string tfr, .bool tb1, .bool tb2, .bool tb3, .bool tb4] := by
      refine ⟨(bl1.trans (hbx.old.mono bl1.size)).alloc (by omega) _, ?_, ?_, by omega, by omega⟩
      · rw [hrb, Below.heap_alloc _ _ _ hsz, hbx.below.block _ (by omega)]
        show (W1.heap.push _)[W1.heap.size]? = _
        exact Array.getElem?_push_size
      · rw [htb]
        show (W2.heap.push _)[W2.heap.size]? = _
        exact Array.getElem?_push_size
    have c0 : W2.cell? ⟨W1.heap.size, 0, none⟩ = some (.string rsc) := hbx.cell 0
    have c1 : W2.cell? ⟨W1.heap.size, 1, none⟩ = some (.string rau) := hbx.cell 1
    have c2 : W2.cell? ⟨W1.heap.size, 2, none⟩ = some (.string rpa) := hbx.cell 2
    have c3 : W2.cell? ⟨W1.heap.size, 3, none⟩ = some (.string rqu) := hbx.cell 3
    have c4 : W2.cell? ⟨W1.heap.size, 4, none⟩ = some (.string rfr) := hbx.cell 4
    have c5 : W2.cell? ⟨W1.heap.size, 5, none⟩ = some (.bool false) := hbx.cell 5
    have c6 : W2.cell? ⟨W1.heap.size, 6, none⟩ = some (.bool rb2) := hbx.cell 6
    have c7 : W2.cell? ⟨W1.heap.size, 7, none⟩ = some (.bool rb3) := hbx.cell 7
    have c8 : W2.cell? ⟨W1.heap.size, 8, none⟩ = some (.bool rb4) := hbx.cell 8
    go_upto_region 6 with fail
    rw [← hrb, ← htb]
    obtain ⟨WX, hWX⟩ : ∃ WX, WX = W2.alloc (.cells #[.string tsc, .string tau, .string tpa, .string tqu, .string tfr, .bool tb1, .bool tb2, .bool tb3, .bool tb4] 38) := ⟨_, rfl⟩
    rw [← hWX] at T0 ⊢
    clear hrb htb hWX c0 c1 c2 c3 c4 c5 c6 c7 c8 hbx hsz hw1 bl2 bl1
    have hlt := T0.lt
    have hne : ¬ tb = rb := by omega
    have hne' : ¬ rb = tb := by omega
    have cr0 : WX.cell? ⟨rb, 0, none⟩ = some (.string rsc) := T0.cr 0
    have cr1 : WX.cell? ⟨rb, 1, none⟩ = some (.string rau) := T0.cr 1
    have cr2 : WX.cell? ⟨rb, 2, none⟩ = some (.string rpa) := T0.cr 2
    have cr3 : WX.cell? ⟨rb, 3, none⟩ = some (.string rqu) := T0.cr 3
    have cr4 : WX.cell? ⟨rb, 4, none⟩ = some (.string rfr) := T0.cr 4
    have cr5 : WX.cell? ⟨rb, 5, none⟩ = some (.bool false) := T0.cr 5
    have cr6 : WX.cell? ⟨rb, 6, none⟩ = some (.bool rb2) := T0.cr 6
    have cr7 : WX.cell? ⟨rb, 7, none⟩ = some (.bool rb3) := T0.cr 7
    have cr8 : WX.cell? ⟨rb, 8, none⟩ = some (.bool rb4) := T0.cr 8
    have ct0 : WX.cell? ⟨tb, 0, none⟩ = some (.string tsc) := T0.ct 0
    have ct1 : WX.cell? ⟨tb, 1, none⟩ = some (.string tau) := T0.ct 1
    have ct2 : WX.cell? ⟨tb, 2, none⟩ = some (.string tpa) := T0.ct 2
    have ct3 : WX.cell? ⟨tb, 3, none⟩ = some (.string tqu) := T0.ct 3
    have ct4 : WX.cell? ⟨tb, 4, none⟩ = some (.string tfr) := T0.ct 4
    have ct5 : WX.cell? ⟨tb, 5, none⟩ = some (.bool tb1) := T0.ct 5
    have ct6 : WX.cell? ⟨tb, 6, none⟩ = some (.bool tb2) := T0.ct 6
    have ct7 : WX.cell? ⟨tb, 7, none⟩ = some (.bool tb3) := T0.ct 7
    have ct8 : WX.cell? ⟨tb, 8, none⟩ = some (.bool tb4) := T0.ct 8
    have ctf0 : WX.frozen? ⟨tb, 0, none⟩ = false := T0.ft 0
    have ctf1 : WX.frozen? ⟨tb, 1, none⟩ = false := T0.ft 1
    have ctf2 : WX.frozen? ⟨tb, 2, none⟩ = false := T0.ft 2
    have ctf3 : WX.frozen? ⟨tb, 3, none⟩ = false := T0.ft 3
    have ctf4 : WX.frozen? ⟨tb, 4, none⟩ = false := T0.ft 4
    have ctf5 : WX.frozen? ⟨tb, 5, none⟩ = false := T0.ft 5
    have ctf6 : WX.frozen? ⟨tb, 6, none⟩ = false := T0.ft 6
    have ctf7 : WX.frozen? ⟨tb, 7, none⟩ = false := T0.ft 7
    have ctf8 : WX.frozen? ⟨tb, 8, none⟩ = false := T0.ft 8
    go_cut [] (fun wx => Two w wx rb tb #[.string rsc, .string rau, .string rpa, .string rqu, .string rfr, .bool false, .bool rb2, .bool rb3, .bool rb4] #[.string tsc, .string tau, .string tpa, .string tqu, .string rfr, .bool tb1, .bool tb2, .bool tb3, .bool rb4])
    case first =>
      go_region
      all_goals
        go_wp2_with fail
        go_meet
        case rel => exact (((T0.set 4 (.string rfr)).set 8 (.bool rb4)).drew)
    case rest =>
    clear cr0 cr1 cr2 cr3 cr4 cr5 cr6 cr7 cr8 ct0 ct1 ct2 ct3 ct4 ct5 ct6 ct7 ct8 ctf0 ctf1 ctf2 ctf3 ctf4 ctf5 ctf6 ctf7 ctf8
    clear T0
    have cr0 : wc.cell? ⟨rb, 0, none⟩ = some (.string rsc) := hcut.cr 0
    have cr1 : wc.cell? ⟨rb, 1, none⟩ = some (.string rau) := hcut.cr 1
    have cr2 : wc.cell? ⟨rb, 2, none⟩ = some (.string rpa) := hcut.cr 2
    have cr3 : wc.cell? ⟨rb, 3, none⟩ = some (.string rqu) := hcut.cr 3
    have cr4 : wc.cell? ⟨rb, 4, none⟩ = some (.string rfr) := hcut.cr 4
    have cr5 : wc.cell? ⟨rb, 5, none⟩ = some (.bool false) := hcut.cr 5
    have cr6 : wc.cell? ⟨rb, 6, none⟩ = some (.bool rb2) := hcut.cr 6
    have cr7 : wc.cell? ⟨rb, 7, none⟩ = some (.bool rb3) := hcut.cr 7
    have cr8 : wc.cell? ⟨rb, 8, none⟩ = some (.bool rb4) := hcut.cr 8
    have ct0 : wc.cell? ⟨tb, 0, none⟩ = some (.string tsc) := hcut.ct 0
    have ct1 : wc.cell? ⟨tb, 1, none⟩ = some (.string tau) := hcut.ct 1
    have ct2 : wc.cell? ⟨tb, 2, none⟩ = some (.string tpa) := hcut.ct 2
    have ct3 : wc.cell? ⟨tb, 3, none⟩ = some (.string tqu) := hcut.ct 3
    have ct4 : wc.cell? ⟨tb, 4, none⟩ = some (.string rfr) := hcut.ct 4
    have ct5 : wc.cell? ⟨tb, 5, none⟩ = some (.bool tb1) := hcut.ct 5
    have ct6 : wc.cell? ⟨tb, 6, none⟩ = some (.bool tb2) := hcut.ct 6
    have ct7 : wc.cell? ⟨tb, 7, none⟩ = some (.bool tb3) := hcut.ct 7
    have ct8 : wc.cell? ⟨tb, 8, none⟩ = some (.bool rb4) := hcut.ct 8
    have ctf0 : wc.frozen? ⟨tb, 0, none⟩ = false := hcut.ft 0
    have ctf1 : wc.frozen? ⟨tb, 1, none⟩ = false := hcut.ft 1
    have ctf2 : wc.frozen? ⟨tb, 2, none⟩ = false := hcut.ft 2
    have ctf3 : wc.frozen? ⟨tb, 3, none⟩ = false := hcut.ft 3
    have ctf4 : wc.frozen? ⟨tb, 4, none⟩ = false := hcut.ft 4
    have ctf5 : wc.frozen? ⟨tb, 5, none⟩ = false := hcut.ft 5
    have ctf6 : wc.frozen? ⟨tb, 6, none⟩ = false := hcut.ft 6
    have ctf7 : wc.frozen? ⟨tb, 7, none⟩ = false := hcut.ft 7
    have ctf8 : wc.frozen? ⟨tb, 8, none⟩ = false := hcut.ft 8
    have T1 := hcut
    clear hcut
    cases rb2 with
    | true =>
      go_wp2_with fail
      refine (removeDots_any _ _ (by omega)).mono ?_
      rw [← HRP.out]
      rintro e W3 ⟨rfl, bl3⟩
      have T2 := ((T1.set 1 (.string rau)).set 6 (.bool true)).next bl3
      simp only [List.setIfInBounds_toArray, List.set_cons_zero, List.set_cons_succ] at T2
      clear bl3
      clear cr0 cr1 cr2 cr3 cr4 cr5 cr6 cr7 cr8 ct0 ct1 ct2 ct3 ct4 ct5 ct6 ct7 ct8 ctf0 ctf1 ctf2 ctf3 ctf4 ctf5 ctf6 ctf7 ctf8
      have cr0 : W3.cell? ⟨rb, 0, none⟩ = some (.string rsc) := T2.cr 0
      have cr1 : W3.cell? ⟨rb, 1, none⟩ = some (.string rau) := T2.cr 1
      have cr2 : W3.cell? ⟨rb, 2, none⟩ = some (.string rpa) := T2.cr 2
      have cr3 : W3.cell? ⟨rb, 3, none⟩ = some (.string rqu) := T2.cr 3
      have cr4 : W3.cell? ⟨rb, 4, none⟩ = some (.string rfr) := T2.cr 4
      have cr5 : W3.cell? ⟨rb, 5, none⟩ = some (.bool false) := T2.cr 5
      have cr6 : W3.cell? ⟨rb, 6, none⟩ = some (.bool true) := T2.cr 6
      have cr7 : W3.cell? ⟨rb, 7, none⟩ = some (.bool rb3) := T2.cr 7
      have cr8 : W3.cell? ⟨rb, 8, none⟩ = some (.bool rb4) := T2.cr 8
      have ct0 : W3.cell? ⟨tb, 0, none⟩ = some (.string tsc) := T2.ct 0
      have ct1 : W3.cell? ⟨tb, 1, none⟩ = some (.string rau) := T2.ct 1
      have ct2 : W3.cell? ⟨tb, 2, none⟩ = some (.string tpa) := T2.ct 2
      have ct3 : W3.cell? ⟨tb, 3, none⟩ = some (.string tqu) := T2.ct 3
      have ct4 : W3.cell? ⟨tb, 4, none⟩ = some (.string rfr) := T2.ct 4
      have ct5 : W3.cell? ⟨tb, 5, none⟩ = some (.bool tb1) := T2.ct 5
      have ct6 : W3.cell? ⟨tb, 6, none⟩ = some (.bool true) := T2.ct 6
      have ct7 : W3.cell? ⟨tb, 7, none⟩ = some (.bool tb3) := T2.ct 7
      have ct8 : W3.cell? ⟨tb, 8, none⟩ = some (.bool rb4) := T2.ct 8
      have ctf0 : W3.frozen? ⟨tb, 0, none⟩ = false := T2.ft 0
      have ctf1 : W3.frozen? ⟨tb, 1, none⟩ = false := T2.ft 1
      have ctf2 : W3.frozen? ⟨tb, 2, none⟩ = false := T2.ft 2
      have ctf3 : W3.frozen? ⟨tb, 3, none⟩ = false := T2.ft 3
      have ctf4 : W3.frozen? ⟨tb, 4, none⟩ = false := T2.ft 4
      have ctf5 : W3.frozen? ⟨tb, 5, none⟩ = false := T2.ft 5
      have ctf6 : W3.frozen? ⟨tb, 6, none⟩ = false := T2.ft 6
      have ctf7 : W3.frozen? ⟨tb, 7, none⟩ = false := T2.ft 7
      have ctf8 : W3.frozen? ⟨tb, 8, none⟩ = false := T2.ft 8
      go_upto_region 14 with fail
      have T8 := (((T2.set 2 (.string rp)).set 3 (.string rqu)).set 7 (.bool rb3)).drew
      go_region
      all_goals
        go_wp2_with fail
        refine (string_any _ _ _ _ _ _ _ _ _ _ (by omega)).mono ?_
        rintro e W9 ⟨rfl, bl9⟩
        go_wp2
        go_ret
        have HJ : Pl.join (PB tsc rau rp rqu rfr tb1 true rb3 rb4) = Pl.resolveL base.data.toList ref.data.toList := by
          unfold Pl.resolveL
          rw [HR.out, HT.out]
          show _ = Pl.join (Pl.resolveP _ _)
          simp [Pl.resolveP, PB, HRD.out]
        exact ⟨ret_strH HJ, T8.below.trans (bl9.mono T8.below.size)⟩
    | false =>
      cases he : rpa.toList.isEmpty with
      | true =>
        have he' : rpa.data.toList.isEmpty = true := by rw [← Lib.toList_data]; exact he
        cases rb3 with
        | true =>
          have T2 := (T1.set 3 (.string rqu)).set 7 (.bool true)
          go_wp2_with fail
          refine (string_any _ _ _ _ _ _ _ _ _ _ (by omega)).mono ?_
          rintro e W9 ⟨rfl, bl9⟩
          go_wp2
          go_ret
          have HJ : Pl.join (PB tsc tau tpa rqu rfr tb1 tb2 true rb4) = Pl.resolveL base.data.toList ref.data.toList := by
            unfold Pl.resolveL
            rw [HR.out, HT.out]
            show _ = Pl.join (Pl.resolveP _ _)
            simp [Pl.resolveP, PB, he']
          exact ⟨ret_strH HJ, T2.below.trans (bl9.mono T2.below.size)⟩
        | false =>
          go_wp2_with fail
          refine (string_any _ _ _ _ _ _ _ _ _ _ (by omega)).mono ?_
          rintro e W9 ⟨rfl, bl9⟩
          go_wp2
          go_ret
          have HJ : Pl.join (PB tsc tau tpa tqu rfr tb1 tb2 tb3 rb4) = Pl.resolveL base.data.toList ref.data.toList := by
            unfold Pl.resolveL
            rw [HR.out, HT.out]
            show _ = Pl.join (Pl.resolveP _ _)
            simp [Pl.resolveP, PB, he']
          exact ⟨ret_strH HJ, T1.below.trans (bl9.mono T1.below.size)⟩
      | false =>
        have he' : rpa.data.toList.isEmpty = false := by rw [← Lib.toList_data]; exact he
        cases hp : Lib.hasPrefix rpa.data.toList [47] with
        | true =>
          go_wp2_with (go_at_call 33; refine (cHasPrefix _ _ _).mono ?_; rintro e w' ⟨rfl, rfl⟩)
          refine (removeDots_any _ _ (by omega)).mono ?_
          rw [← HRP.out]
          rintro e W3 ⟨rfl, bl3⟩
          have T2 := T1.next bl3
          clear bl3
          clear cr0 cr1 cr2 cr3 cr4 cr5 cr6 cr7 cr8 ct0 ct1 ct2 ct3 ct4 ct5 ct6 ct7 ct8 ctf0 ctf1 ctf2 ctf3 ctf4 ctf5 ctf6 ctf7 ctf8
          have cr0 : W3.cell? ⟨rb, 0, none⟩ = some (.string rsc) := T2.cr 0
          have cr1 : W3.cell? ⟨rb, 1, none⟩ = some (.string rau) := T2.cr 1
          have cr2 : W3.cell? ⟨rb, 2, none⟩ = some (.string rpa) := T2.cr 2
          have cr3 : W3.cell? ⟨rb, 3, none⟩ = some (.string rqu) := T2.cr 3
          have cr4 : W3.cell? ⟨rb, 4, none⟩ = some (.string rfr) := T2.cr 4
          have cr5 : W3.cell? ⟨rb, 5, none⟩ = some (.bool false) := T2.cr 5
          have cr6 : W3.cell? ⟨rb, 6, none⟩ = some (.bool false) := T2.cr 6
          have cr7 : W3.cell? ⟨rb, 7, none⟩ = some (.bool rb3) := T2.cr 7
          have cr8 : W3.cell? ⟨rb, 8, none⟩ = some (.bool rb4) := T2.cr 8
          have ct0 : W3.cell? ⟨tb, 0, none⟩ = some (.string tsc) := T2.ct 0
          have ct1 : W3.cell? ⟨tb, 1, none⟩ = some (.string tau) := T2.ct 1
          have ct2 : W3.cell? ⟨tb, 2, none⟩ = some (.string tpa) := T2.ct 2
          have ct3 : W3.cell? ⟨tb, 3, none⟩ = some (.string tqu) := T2.ct 3
          have ct4 : W3.cell? ⟨tb, 4, none⟩ = some (.string rfr) := T2.ct 4
          have ct5 : W3.cell? ⟨tb, 5, none⟩ = some (.bool tb1) := T2.ct 5
          have ct6 : W3.cell? ⟨tb, 6, none⟩ = some (.bool tb2) := T2.ct 6
          have ct7 : W3.cell? ⟨tb, 7, none⟩ = some (.bool tb3) := T2.ct 7
          have ct8 : W3.cell? ⟨tb, 8, none⟩ = some (.bool rb4) := T2.ct 8
          have ctf0 : W3.frozen? ⟨tb, 0, none⟩ = false := T2.ft 0
          have ctf1 : W3.frozen? ⟨tb, 1, none⟩ = false := T2.ft 1
          have ctf2 : W3.frozen? ⟨tb, 2, none⟩ = false := T2.ft 2
          have ctf3 : W3.frozen? ⟨tb, 3, none⟩ = false := T2.ft 3
          have ctf4 : W3.frozen? ⟨tb, 4, none⟩ = false := T2.ft 4
          have ctf5 : W3.frozen? ⟨tb, 5, none⟩ = false := T2.ft 5
          have ctf6 : W3.frozen? ⟨tb, 6, none⟩ = false := T2.ft 6
          have ctf7 : W3.frozen? ⟨tb, 7, none⟩ = false := T2.ft 7
          have ctf8 : W3.frozen? ⟨tb, 8, none⟩ = false := T2.ft 8
          go_upto_region 10 with fail
          have T8 := (((T2.set 2 (.string rp)).set 3 (.string rqu)).set 7 (.bool rb3)).drew
          go_region
          all_goals
            go_wp2_with fail
            refine (string_any _ _ _ _ _ _ _ _ _ _ (by omega)).mono ?_
            rintro e W9 ⟨rfl, bl9⟩
            go_wp2
            go_ret
            have HJ : Pl.join (PB tsc tau rp rqu rfr tb1 tb2 rb3 rb4) = Pl.resolveL base.data.toList ref.data.toList := by
              unfold Pl.resolveL
              rw [HR.out, HT.out]
              show _ = Pl.join (Pl.resolveP _ _)
              simp [Pl.resolveP, PB, he', hp, HRD.out]
            exact ⟨ret_strH HJ, T8.below.trans (bl9.mono T8.below.size)⟩
        | false =>
          go_wp2_with (go_at_call 33; refine (cHasPrefix _ _ _).mono ?_; rintro e w' ⟨rfl, rfl⟩)
          refine (merge_any _ _ _ _ _ _ _ _ _ _ _ (by omega) (by omega)).mono ?_
          rintro e W3 ⟨m, rfl, hm, bl3⟩
          have T2 := T1.next bl3
          have hms : m.size ≤ tpa.size + rpa.size + 1 := by
            have := Pl.merge_len tb2 tpa.data.toList rpa.data.toList
            rw [← hm, ← Pl.size_toList, ← Pl.size_toList, ← Pl.size_toList] at this
            exact this
          obtain ⟨mp, HMP⟩ : ∃ mp : ByteArray, Hid (mp = ⟨(Pl.rd m.data.toList).toArray⟩) := ⟨_, rfl⟩
          have hmp : mp.size ≤ m.size := by
            have := Pl.rd_le m.data.toList
            rw [← Pl.size_toList] at this
            rw [HMP.out]; exact this
          have HMD : Hid (mp.data.toList = Pl.rd (Pl.mergeL tb2 tpa.data.toList rpa.data.toList)) := by
            rw [← hm, HMP.out]; rfl
          clear bl3 hm
          clear cr0 cr1 cr2 cr3 cr4 cr5 cr6 cr7 cr8 ct0 ct1 ct2 ct3 ct4 ct5 ct6 ct7 ct8 ctf0 ctf1 ctf2 ctf3 ctf4 ctf5 ctf6 ctf7 ctf8
          have cr0 : W3.cell? ⟨rb, 0, none⟩ = some (.string rsc) := T2.cr 0
          have cr1 : W3.cell? ⟨rb, 1, none⟩ = some (.string rau) := T2.cr 1
          have cr2 : W3.cell? ⟨rb, 2, none⟩ = some (.string rpa) := T2.cr 2
          have cr3 : W3.cell? ⟨rb, 3, none⟩ = some (.string rqu) := T2.cr 3
          have cr4 : W3.cell? ⟨rb, 4, none⟩ = some (.string rfr) := T2.cr 4
          have cr5 : W3.cell? ⟨rb, 5, none⟩ = some (.bool false) := T2.cr 5
          have cr6 : W3.cell? ⟨rb, 6, none⟩ = some (.bool false) := T2.cr 6
          have cr7 : W3.cell? ⟨rb, 7, none⟩ = some (.bool rb3) := T2.cr 7
          have cr8 : W3.cell? ⟨rb, 8, none⟩ = some (.bool rb4) := T2.cr 8
          have ct0 : W3.cell? ⟨tb, 0, none⟩ = some (.string tsc) := T2.ct 0
          have ct1 : W3.cell? ⟨tb, 1, none⟩ = some (.string tau) := T2.ct 1
          have ct2 : W3.cell? ⟨tb, 2, none⟩ = some (.string tpa) := T2.ct 2
          have ct3 : W3.cell? ⟨tb, 3, none⟩ = some (.string tqu) := T2.ct 3
          have ct4 : W3.cell? ⟨tb, 4, none⟩ = some (.string rfr) := T2.ct 4
          have ct5 : W3.cell? ⟨tb, 5, none⟩ = some (.bool tb1) := T2.ct 5
          have ct6 : W3.cell? ⟨tb, 6, none⟩ = some (.bool tb2) := T2.ct 6
          have ct7 : W3.cell? ⟨tb, 7, none⟩ = some (.bool tb3) := T2.ct 7
          have ct8 : W3.cell? ⟨tb, 8, none⟩ = some (.bool rb4) := T2.ct 8
          have ctf0 : W3.frozen? ⟨tb, 0, none⟩ = false := T2.ft 0
          have ctf1 : W3.frozen? ⟨tb, 1, none⟩ = false := T2.ft 1
          have ctf2 : W3.frozen? ⟨tb, 2, none⟩ = false := T2.ft 2
          have ctf3 : W3.frozen? ⟨tb, 3, none⟩ = false := T2.ft 3
          have ctf4 : W3.frozen? ⟨tb, 4, none⟩ = false := T2.ft 4
          have ctf5 : W3.frozen? ⟨tb, 5, none⟩ = false := T2.ft 5
          have ctf6 : W3.frozen? ⟨tb, 6, none⟩ = false := T2.ft 6
          have ctf7 : W3.frozen? ⟨tb, 7, none⟩ = false := T2.ft 7
          have ctf8 : W3.frozen? ⟨tb, 8, none⟩ = false := T2.ft 8
          go_wp2_with fail
          refine (removeDots_any _ _ (by omega)).mono ?_
          rw [← HMP.out]
          rintro e W4 ⟨rfl, bl4⟩
          have T3 := T2.next bl4
          clear bl4
          clear cr0 cr1 cr2 cr3 cr4 cr5 cr6 cr7 cr8 ct0 ct1 ct2 ct3 ct4 ct5 ct6 ct7 ct8 ctf0 ctf1 ctf2 ctf3 ctf4 ctf5 ctf6 ctf7 ctf8
          have cr0 : W4.cell? ⟨rb, 0, none⟩ = some (.string rsc) := T3.cr 0
          have cr1 : W4.cell? ⟨rb, 1, none⟩ = some (.string rau) := T3.cr 1
          have cr2 : W4.cell? ⟨rb, 2, none⟩ = some (.string rpa) := T3.cr 2
          have cr3 : W4.cell? ⟨rb, 3, none⟩ = some (.string rqu) := T3.cr 3
          have cr4 : W4.cell? ⟨rb, 4, none⟩ = some (.string rfr) := T3.cr 4
          have cr5 : W4.cell? ⟨rb, 5, none⟩ = some (.bool false) := T3.cr 5
          have cr6 : W4.cell? ⟨rb, 6, none⟩ = some (.bool false) := T3.cr 6
          have cr7 : W4.cell? ⟨rb, 7, none⟩ = some (.bool rb3) := T3.cr 7
          have cr8 : W4.cell? ⟨rb, 8, none⟩ = some (.bool rb4) := T3.cr 8
          have ct0 : W4.cell? ⟨tb, 0, none⟩ = some (.string tsc) := T3.ct 0
          have ct1 : W4.cell? ⟨tb, 1, none⟩ = some (.string tau) := T3.ct 1
          have ct2 : W4.cell? ⟨tb, 2, none⟩ = some (.string tpa) := T3.ct 2
          have ct3 : W4.cell? ⟨tb, 3, none⟩ = some (.string tqu) := T3.ct 3
          have ct4 : W4.cell? ⟨tb, 4, none⟩ = some (.string rfr) := T3.ct 4
          have ct5 : W4.cell? ⟨tb, 5, none⟩ = some (.bool tb1) := T3.ct 5
          have ct6 : W4.cell? ⟨tb, 6, none⟩ = some (.bool tb2) := T3.ct 6
          have ct7 : W4.cell? ⟨tb, 7, none⟩ = some (.bool tb3) := T3.ct 7
          have ct8 : W4.cell? ⟨tb, 8, none⟩ = some (.bool rb4) := T3.ct 8
          have ctf0 : W4.frozen? ⟨tb, 0, none⟩ = false := T3.ft 0
          have ctf1 : W4.frozen? ⟨tb, 1, none⟩ = false := T3.ft 1
          have ctf2 : W4.frozen? ⟨tb, 2, none⟩ = false := T3.ft 2
          have ctf3 : W4.frozen? ⟨tb, 3, none⟩ = false := T3.ft 3
          have ctf4 : W4.frozen? ⟨tb, 4, none⟩ = false := T3.ft 4
          have ctf5 : W4.frozen? ⟨tb, 5, none⟩ = false := T3.ft 5
          have ctf6 : W4.frozen? ⟨tb, 6, none⟩ = false := T3.ft 6
          have ctf7 : W4.frozen? ⟨tb, 7, none⟩ = false := T3.ft 7
          have ctf8 : W4.frozen? ⟨tb, 8, none⟩ = false := T3.ft 8
          go_upto_region 10 with fail
          have T8 := (((T3.set 2 (.string mp)).set 3 (.string rqu)).set 7 (.bool rb3)).drew
          go_region
          all_goals
            go_wp2_with fail
            refine (string_any _ _ _ _ _ _ _ _ _ _ (by omega)).mono ?_
            rintro e W9 ⟨rfl, bl9⟩
            go_wp2
            go_ret
            have HJ : Pl.join (PB tsc tau mp rqu rfr tb1 tb2 rb3 rb4) = Pl.resolveL base.data.toList ref.data.toList := by
              unfold Pl.resolveL
              rw [HR.out, HT.out]
              show _ = Pl.join (Pl.resolveP _ _)
              simp [Pl.resolveP, PB, he', hp, HMD.out]
            exact ⟨ret_strH HJ, T8.below.trans (bl9.mono T8.below.size)⟩

theorem zzResolve_any (base ref : ByteArray) (w : World) (hb : base.size ≤ 300000) (hr : ref.size ≤ 300000) :
    Calls Try.prog 23 #[.string base, .string ref] w fun e w' => e = .returned (.string ⟨(Pl.resolveL base.data.toList ref.data.toList).toArray⟩) ∧ Below w.heap.size w w' := by
  go_enter Try.func23, Try.ntmps23
  go_wp2_with fail
  refine (resolve_any _ _ _ hb hr).mono ?_
  rintro e W1 ⟨rfl, b1⟩
  go_wp2
  go_ret
  exact ⟨rfl, b1⟩

end Go.Proofs.Qxb6605311a
