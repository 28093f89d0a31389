/-
  The closed facts for the walk over fmt's stopped front (fmt.errorf, 21) at this dump, and the run equations of a map of strings with no entry and with one.
-/
import Derived.Test.Qxb6608712aFmtProg
import Derived.Stop.CallBack
import Derived.Stop.IfaceNil
import GoSem.ClaimData
import Derived.MapKept
import Derived.Carry
namespace Go.Proofs
open Go.Extern.Stop Go.Stop Go.Extern

@[go_sem] theorem Tryf.call21 (args : Array Value) (w : World) : (callFunc 21 args).run Tryf.prog w = ((FmtStop.errorf #[9, 56] #[28] args).run Tryf.prog w).andThen fun v w' => .ok (.value v) w' :=
  run_callFunc_extern Tryf.func21 (by kernel_rfl) (by kernel_rfl) (by kernel_rfl) (by kernel_rfl) args w

@[go_sem] theorem Tryf.guard (name : String) (w : World) : (FmtStop.guard name).run Tryf.prog w = .ok () w := by kernel_rfl
def Tryf.shape9 : List UInt8 := [12, 6, 0, 0, 0, 0, 0, 0, 0, 115, 116, 114, 105, 110, 103]
@[go_sem] theorem Tryf.op9_115w (name : String) (x : ByteArray) (w : World) : (FmtStop.operand name true 115 false (.iface 9 (.string x))).run Tryf.prog w = .ok (Tryf.shape9, FmtStop.pack x.data.toList) w := by kernel_rfl
@[go_sem] theorem Tryf.ptrErr (w : World) : (FmtStop.ptrTo "errors.errorString").run Tryf.prog w = .ok 53 w := by kernel_rfl
@[go_sem] theorem Tryf.elemErr (w : World) : (elemOf 53).run Tryf.prog w = .ok 55 w := by kernel_rfl

/-- What the one format of this program prints. -/
theorem Tryf.fmt0r (w : World) : (FmtDoors.printed ⟨([104, 97, 115, 32, 116, 104, 101, 32, 112, 114, 101, 102, 105, 120, 32, 37, 115, 44, 32, 119, 104, 105, 99, 104, 32, 110, 111, 32, 120, 109, 108, 110, 115].append [58, 37, 115, 32, 105, 110, 32, 115, 99, 111, 112, 101, 32, 98, 105, 110, 100, 115, 32, 116, 111, 32, 97, 32, 110, 97, 109, 101, 115, 112, 97, 99, 101]).toArray⟩ 2).run Tryf.prog w = .ok [(0, 115, false), (1, 115, false)] w := by kernel_rfl

/-- A look-up in a map of strings, by what 'findNow' says. -/
theorem Tryf.lookFound {w : World} {m c : Nat} {es : Array MapEntry} (hb : w.heap[m]? = some (.map es c)) (s g : ByteArray) (j : Nat) (hf : Instr.findNow .string (.string s) es.toList 0 = some (some (j, .string g))) (ok : Bool) :
    (Instr.lookup 42 (.map (some m)) (.string s) ok).run Tryf.prog w = .ok (if ok then .tuple #[.string g, .bool true] else .string g) w := by
  have h1 := MapKept.run_getObj_map (P := Tryf.prog) hb
  have h2 : (underlying 42).run Tryf.prog w = .ok (.map 9 9) w := run_underlying Tryf.underlying42 w
  have h3 : (Instr.checkKey es.isEmpty 10000 9 (.string s)).run Tryf.prog w = .ok () w := MapKept.run_checkKey Tryf.underlying9 (by simp [MapKept.IsKey]) _ _
  have h4 := MapKept.run_findKey (P := Tryf.prog) (w := w) Tryf.underlying9 hf
  simp [Instr.lookup, h1, h2, h3, h4, Result.andThen]
theorem Tryf.lookNone {w : World} {m c : Nat} {es : Array MapEntry} (hb : w.heap[m]? = some (.map es c)) (s : ByteArray) (hf : Instr.findNow .string (.string s) es.toList 0 = some none) (ok : Bool) :
    (Instr.lookup 42 (.map (some m)) (.string s) ok).run Tryf.prog w = .ok (if ok then .tuple #[.string ⟨#[]⟩, .bool false] else .string ⟨#[]⟩) w := by
  have h1 := MapKept.run_getObj_map (P := Tryf.prog) hb
  have h2 : (underlying 42).run Tryf.prog w = .ok (.map 9 9) w := run_underlying Tryf.underlying42 w
  have h3 : (Instr.checkKey es.isEmpty 10000 9 (.string s)).run Tryf.prog w = .ok () w := MapKept.run_checkKey Tryf.underlying9 (by simp [MapKept.IsKey]) _ _
  have h4 := MapKept.run_findKey (P := Tryf.prog) (w := w) Tryf.underlying9 hf
  have h5 : (zeroValue 9).run Tryf.prog w = .ok (.string ⟨#[]⟩) w := by kernel_rfl
  simp [Instr.lookup, h1, h2, h3, h4, h5, Result.andThen]
/-- The first store into a map of strings. -/
theorem Tryf.put0 {w : World} {m c : Nat} (hb : w.heap[m]? = some (.map #[] c)) (k v : ByteArray) :
    (Instr.mapUpdate 42 (.map (some m)) (.string k) (.string v)).run Tryf.prog w = .ok () { w with heap := w.heap.setIfInBounds m (.map #[{ key := .string k, val := .string v, born := c }] (c + 1)) } := by
  have h1 := MapKept.run_getObj_map (P := Tryf.prog) hb
  have h2 : (underlying 42).run Tryf.prog w = .ok (.map 9 9) w := run_underlying Tryf.underlying42 w
  have h3 : (Instr.checkKey false 10000 9 (.string k)).run Tryf.prog w = .ok () w := MapKept.run_checkKey Tryf.underlying9 (by simp [MapKept.IsKey]) _ _
  have h4 := MapKept.run_findKey (P := Tryf.prog) (w := w) (k := .string k) (l := []) (a := none) Tryf.underlying9 rfl
  have h5 := MapKept.run_setObj_map (P := Tryf.prog) (.map #[{ key := .string k, val := .string v, born := c }] (c + 1)) hb
  simp [Instr.mapUpdate, h1, h2, h3, h4, h5, Result.andThen]

/-- What the map gives at the key s: with no entry nothing, with the one entry (s, g) that. -/
def Tryf.Gives (w : World) (m : Nat) (s g : ByteArray) : Prop :=
  (∃ c, w.heap[m]? = some (.map #[] c) ∧ g = ⟨#[]⟩) ∨ ∃ b c, w.heap[m]? = some (.map #[{ key := .string s, val := .string g, born := b }] c)
theorem Tryf.Gives.run {w : World} {m : Nat} {s g : ByteArray} (h : Tryf.Gives w m s g) : (Instr.lookup 42 (.map (some m)) (.string s) false).run Tryf.prog w = .ok (.string g) w := by
  rcases h with ⟨c, hb, rfl⟩ | ⟨b, c, hb⟩
  · exact (Tryf.lookNone hb s rfl false).trans rfl
  · have e : (s == s) = true := (MapKept.bytes_beq _ _).2 rfl
    exact (Tryf.lookFound hb s g 0 (by simp [Instr.findNow, Instr.sameNow, e]) false).trans rfl
theorem Tryf.Gives.kept {w w' : World} {m : Nat} {s g : ByteArray} (h : Tryf.Gives w m s g) (hk : w'.heap[m]? = w.heap[m]?) : Tryf.Gives w' m s g := by
  unfold Tryf.Gives
  rw [hk]
  exact h
theorem Tryf.Gives.lt {w : World} {m : Nat} {s g : ByteArray} (h : Tryf.Gives w m s g) : m < w.heap.size := by
  rcases h with ⟨c, hb, rfl⟩ | ⟨b, c, hb⟩ <;> exact (Array.getElem?_eq_some_iff.1 hb).1

end Go.Proofs
