import Derived.Test.Qxb6615484aRows
import Derived.WalkKit
import Derived.ProofKit
import Derived.OpenShut
import Derived.ShutString
import Derived.WalkLawsBesides
import Derived.DeepKeys4
import Derived.Maps.OwnOps
import Derived.Lib.Hide
namespace Go.Proofs.Qxb6615484a
open Go.RowKit Go.Maps

theorem own : ownKnob Try.prog.godebug = none := by kernel_rfl
theorem Try.laidOut : laidOutB Try.prog = true := by kernel_rfl
theorem Try.row70 : 70 < Try.prog.types.size := by decide +kernel
theorem Try.wide70 : (match Try.prog.underlying 70 with | some (.array _ _) | some (.struct _) => true | _ => false) = true := by rw [Try.underlying70]
theorem law : Keyed Try.prog 70 := Keyed.of_law (deep_law_laid Try.laidOut (m := 2) (by omega) Try.row70 (by kernel_rfl) Try.wide70)
theorem zero4 (w : World) : (zeroValue 4).run Try.prog w = .ok (.bool false) w := by kernel_rfl
theorem Try.cells9 : Try.prog.cellsOf 9 = 1 := by kernel_rfl
theorem Try.cells70 : Try.prog.cellsOf 70 = 3 := by kernel_rfl
theorem Try.cells4 : Try.prog.cellsOf 4 = 1 := by kernel_rfl

/-- A subordinate: its three strings. -/
abbrev Sub := ByteArray × ByteArray × ByteArray
def subV (s : Sub) : Value := .agg #[.string s.1, .string s.2.1, .string s.2.2]
def Fits (s : Sub) : Prop := s.1.size ≤ maxLen ∧ s.2.1.size ≤ maxLen ∧ s.2.2.size ≤ maxLen
/-- What a subordinate reads as, as a key. -/
def keyL (s : Sub) : Lit := .string (keyBytes [.string s.1.data.toList, .string s.2.1.data.toList, .string s.2.2.data.toList])
theorem key_ok (s : Sub) (h : Fits s) : keyOf Try.prog 70 (subV s) = some (keyL s) := by
  obtain ⟨a, b, c⟩ := s
  obtain ⟨ha, hb, hc⟩ := h
  have hk : Try.prog.keyType 70 = true := by kernel_rfl
  have hf : (subV (a, b, c)).formed Try.prog 70 = true := by
    unfold subV Value.formed
    simp [Try.underlying70, Try.cells70]
  obtain ⟨m, hm⟩ : ∃ m, Try.prog.types.size = m + 1 := ⟨Try.prog.types.size - 1, by have := Try.row70; omega⟩
  have hstr : ∀ s : ByteArray, s.size ≤ maxLen → Try.prog.keyLits (m + 1) 9 [.string s] = some [.string s.data.toList] := fun s hs => by
    unfold Program.keyLits
    rw [Try.underlying9]
    simp [hs]
  unfold keyOf
  rw [Try.underlying70]
  simp only [hk, hf, Bool.and_self, if_true]
  rw [hm]
  unfold Program.keyLits
  rw [Try.underlying70]
  simp only [subV, Value.cells, Try.cells70]
  simp [hstr a ha, hstr b hb, hstr c hc, keyL, Try.cells9]

/-- What the map answers at a subordinate. -/
def atB (D : DataW Unit) (s : Sub) : Bool := match D.atKey (keyL s) (.lit (.bool false)) with | .lit (.bool b) => b | _ => false
theorem plain_bool_inv {v : Value} {z : DataW Unit × List MemPlace} (h : plainElem Try.prog 4 v = some z) : ∃ b, v = .bool b ∧ z = (.lit (.bool b), []) := by
  unfold plainElem at h
  rw [Try.underlying4] at h
  cases v <;> simp at h
  exact ⟨_, rfl, h.symm⟩
abbrev Owns (w : World) (M n : Nat) (D : DataW Unit) : Prop := w.ownsMap Try.prog 70 (plainElem Try.prog 4) M n D
theorem lookup_sub {w : World} {M n : Nat} {D : DataW Unit} (h : Owns w M n D) (s : Sub) (hs : Fits s) :
    (Instr.lookup 37 (.map (some M)) (.agg #[.string s.1, .string s.2.1, .string s.2.2]) false).run Try.prog w = .ok (.bool (atB D s)) w := by
  obtain ⟨v, ps, hrun, hv⟩ := World.ownsMap.lookup h law Try.underlying37 (zero4 w) (plainElem_bool Try.underlying4 false) (key_ok s hs)
  obtain ⟨b, rfl, hz⟩ := plain_bool_inv hv
  simp only [Prod.mk.injEq] at hz
  have e : atB D s = b := by unfold atB; rw [hz.1]
  rw [e]
  exact hrun

theorem ret_bool {a b : Bool} (h : a = b) : Ending.returned (.bool a) = .returned (.bool b) := by rw [h]
theorem ret_int {k : IntKind} {a b : Int} (h : a = b) : Ending.returned (.int k a) = .returned (.int k b) := by rw [h]

/-- The closure over a branch. -/
theorem clos17 (r : ByteArray) (h f : Bool) (w : World) : Calls Try.prog 17 #[.agg #[.string r, .bool h, .bool f]] w fun e w' => e = .returned (.bool (!f)) ∧ Below w.heap.size w w' := by
  go_enter Try.func17, Try.ntmps17
  go_wp2
  go_ret
  exact ⟨rfl, (Below.refl _ _).alloc (Nat.le_refl _) _⟩
end Go.Proofs.Qxb6615484a
