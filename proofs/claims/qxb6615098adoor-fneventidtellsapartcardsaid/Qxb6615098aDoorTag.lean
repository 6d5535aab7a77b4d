import Derived.Test.Qxb6615098aDoorRows
import Derived.Test.Qxb6615098aDoorEvent
import Derived.WalkKit
import Derived.ProofKit
import Derived.LaidMore
import Derived.OpenShut
import Derived.Stop.Joined
namespace Go.Proofs.Qxb6615098aDoor
open Go.ChangeShapes Go.WideShapes Go.ChangeAt Go.RowKit

theorem Tryd.cells22 : Tryd.prog.cellsOf 22 = 8 := by kernel_rfl
theorem Tryd.cells5 : Tryd.prog.cellsOf 5 = 1 := by kernel_rfl

/-- The tag as data. -/
abbrev tagD {H : Type} (b0 b1 b2 b3 b4 b5 b6 b7 : UInt8) : DataW H := .agg [.lit (.int .u8 b0.toNat), .lit (.int .u8 b1.toNat), .lit (.int .u8 b2.toNat), .lit (.int .u8 b3.toNat), .lit (.int .u8 b4.toNat), .lit (.int .u8 b5.toNat), .lit (.int .u8 b6.toNat), .lit (.int .u8 b7.toNat)]

theorem byte_of {H : Type} {enc : TypeId × Value → H} {w : World} {base : Nat} {sp : Nat → Bool} {held : Bool} {m : Nat} {c : Value} {x : DataW H × List MemPlace} (h : DataW.trod enc Tryd.prog w base sp held m 5 [c] = some x) :
    ∃ b : UInt8, c = .int .u8 (b.toNat : Int) ∧ x = (.lit (.int .u8 (b.toNat : Int)), []) := by
  obtain ⟨k, e1, e2, hw⟩ := DataW.trod_int Tryd.underlying5 h
  have hb := bounds_u8 hw
  have hk : k = ((UInt8.ofNat k.toNat).toNat : Int) := by
    rw [UInt8.toNat_ofNat']
    omega
  refine ⟨UInt8.ofNat k.toNat, ?_, ?_⟩
  · rw [← hk]
    simpa using e1
  · rw [← hk]
    exact e2

theorem open_tag {H : Type} {enc : TypeId × Value → H} {W : World} {r : Reach} {bw base : Nat} {sp : Nat → Bool} {held : Bool} {v : Value} {d : DataW H} {p : List MemPlace}
    (hok : Value.okWide Tryd.prog W r bw 22 v) (h : DataW.Trod enc Tryd.prog W base sp held 22 v d p) :
    ∃ b0 b1 b2 b3 b4 b5 b6 b7 : UInt8, v = tagV b0 b1 b2 b3 b4 b5 b6 b7 ∧ d = tagD b0 b1 b2 b3 b4 b5 b6 b7 ∧ p = [] := by
  simp only [Value.okWide, Tryd.underlying22] at hok
  obtain ⟨cs, rfl, hsz, _⟩ := hok
  rw [Tryd.cells22] at hsz
  obtain ⟨fuel, hf⟩ := h
  obtain ⟨xs, m, rfl, hx, hlen, hn, hel⟩ := DataW.trod_array Tryd.underlying22 hf
  rw [Tryd.cells5] at hel
  obtain ⟨l⟩ := cs
  have hl8 : l.length = 8 := hsz
  match l, hl8, xs, hn with
  | [c0, c1, c2, c3, c4, c5, c6, c7], _, [x0, x1, x2, x3, x4, x5, x6, x7], _ =>
    obtain ⟨b0, rfl, rfl⟩ := byte_of (show DataW.trod enc Tryd.prog W base sp held m 5 [c0] = some x0 from hel 0 (by decide))
    obtain ⟨b1, rfl, rfl⟩ := byte_of (show DataW.trod enc Tryd.prog W base sp held m 5 [c1] = some x1 from hel 1 (by decide))
    obtain ⟨b2, rfl, rfl⟩ := byte_of (show DataW.trod enc Tryd.prog W base sp held m 5 [c2] = some x2 from hel 2 (by decide))
    obtain ⟨b3, rfl, rfl⟩ := byte_of (show DataW.trod enc Tryd.prog W base sp held m 5 [c3] = some x3 from hel 3 (by decide))
    obtain ⟨b4, rfl, rfl⟩ := byte_of (show DataW.trod enc Tryd.prog W base sp held m 5 [c4] = some x4 from hel 4 (by decide))
    obtain ⟨b5, rfl, rfl⟩ := byte_of (show DataW.trod enc Tryd.prog W base sp held m 5 [c5] = some x5 from hel 5 (by decide))
    obtain ⟨b6, rfl, rfl⟩ := byte_of (show DataW.trod enc Tryd.prog W base sp held m 5 [c6] = some x6 from hel 6 (by decide))
    obtain ⟨b7, rfl, rfl⟩ := byte_of (show DataW.trod enc Tryd.prog W base sp held m 5 [c7] = some x7 from hel 7 (by decide))
    simp only [Prod.mk.injEq] at hx
    exact ⟨b0, b1, b2, b3, b4, b5, b6, b7, rfl, hx.1, hx.2⟩

theorem wf_byte (b : UInt8) : (Lit.int .u8 (b.toNat : Int)).wf = true := by
  have := b.toNat_lt
  simp [Lit.wf, IntKind.min, IntKind.max, IntKind.signed, IntKind.bits]
  omega

theorem shut_tag {H : Type} {enc : TypeId × Value → H} {W : World} {base : Nat} {sp : Nat → Bool} {held : Bool} (b0 b1 b2 b3 b4 b5 b6 b7 : UInt8) :
    DataW.Trod enc Tryd.prog W base sp held 22 (tagV b0 b1 b2 b3 b4 b5 b6 b7) (tagD b0 b1 b2 b3 b4 b5 b6 b7) [] :=
  ⟨2, by simp [DataW.trod, Tryd.underlying22, Tryd.underlying5, Tryd.cells22, Tryd.cells5, Value.cells, List.range_succ, wf_byte]⟩
end Go.Proofs.Qxb6615098aDoor
