import Derived.Test.Qxb6615098aDoorRows
import Derived.Test.Qxb6615098aDoorShelf
import Derived.Lib.Walk
import Derived.Lib.ItoaMem
import Derived.Lib.Hide
import Derived.WalkKit
import Derived.BigCall
import Derived.BigGuard
namespace Go.Proofs.Qxb6615098aDoor
open Go.Shelf Go.RowKit Go.Sort Go.Lib

/-- The new block's bytes from place 0 on are a row of zeros. -/
theorem holds_zero0 (w : World) (T : TypeId) (nd : Nat) (hs : nd ≤ 24) : Holds (fun (b : UInt8) => Value.int .u8 (b.toNat : Int)) (w.alloc (.cells zeros24 T)) w.heap.size 0 (Array.replicate nd (0 : UInt8)) := fun j hj => by
  have hj' : j < nd := by simpa using hj
  refine ⟨?_, World.frozen?_alloc_new _ _ _ _⟩
  rw [World.cell?_alloc_new, zeros24_at _ (by omega), getElem!_pos _ j hj]
  simp
theorem fin_pos0 (w : World) (o : Obj) (dk : Array UInt8) (k : Nat) : ∃ os, (putRow (fun (b : UInt8) => Value.int .u8 (b.toNat : Int)) (w.alloc o) w.heap.size 0 dk).drewN k = grow (w.drewN k) os := by
  rw [alloc_eq_grow]
  obtain ⟨os', _, e⟩ := putRow_grow_new (fun (b : UInt8) => Value.int .u8 (b.toNat : Int)) w #[o] w.heap.size 0 dk (Nat.le_refl _)
  exact ⟨os', by rw [e]; rfl⟩

set_option maxHeartbeats 1600000 in
set_option maxRecDepth 100000 in
theorem formatUint_in (u : Nat) (hu64 : u < 18446744073709551616) (w : World) (htab : Lib.TabIs Tryd.prog w Tryd.tabName .u64 Lib.pow10Tab) :
    Calls Tryd.prog 15 #[.int .u64 u, .int .i64 10] w fun e w' => e = .returned (.string ⟨(Lib.decDigits u).toArray⟩) ∧ ∃ k os, w' = grow (w.drewN k) os := by
  by_cases hs : u < 100
  · go_enter Tryd.func15, Tryd.ntmps15
    go_wp2_with (go_at_call 16; refine (Tryd.internal_strconv_small u hs _).mono ?_; rintro e w' ⟨rfl, rfl⟩)
    go_ret
    exact ⟨rfl, 0, #[], by simp [World.drewN_zero, grow]⟩
  · have hu1 : 1 ≤ u := by omega
    have hnd20 : Lib.nDigits u ≤ 20 := by have := Lib.numDigits_eq u hu1 hu64; split at this <;> omega
    have hb3 : Lib.nDigits u ≤ 24 := by omega
    have hal : Tryd.prog.arrayLen 40 = 24 := by simp [Program.arrayLen, Tryd.underlying40]
    have hsl1 : ∀ W, (Instr.sliceAt 40 (.pointer (some ⟨w.heap.size, 0, none⟩)) none (some (.int .i64 (Lib.nDigits u : Int))) none).run Tryd.prog W = .ok (.slice (some ⟨w.heap.size, 0, none⟩) (Lib.nDigits u) 24) W := fun W => by
      rw [run_sliceAt_array_h W 40 ⟨w.heap.size, 0, none⟩ (by simp [Program.arrayLen, Program.elem, Tryd.underlying40]) .i64 (Lib.nDigits u : Int) (by omega) (by rw [hal]; omega)]
      go_simp
    have hH0 := holds_zero0 w 40 (Lib.nDigits u) (by omega)
    have hfmt := Tryd.internal_strconv_formatBase10 w.heap.size 0 24 u (Array.replicate (Lib.nDigits u) 0) (w.alloc (.cells Lib.zeros24 40)) hH0 (by rw [Array.size_replicate]; exact Lib.lt_pow_nDigits u) hu64 (by rw [Array.size_replicate]; omega)
    rw [Array.size_replicate] at hfmt
    have HH0 := Lib.hid hH0
    clear hH0 hal
    go_enter Tryd.func15, Tryd.ntmps15
    go_wp2_with (go_at_call 17; refine (Tryd.internal_strconv_numDigits u hu1 hu64 _ (Lib.tabIs_alloc htab _)).mono ?_; rintro e w' ⟨rfl, rfl⟩)
    refine hfmt.mono ?_
    rintro e w' ⟨rfl, k, v', dk, rfl, hF⟩
    have hcv : (convert 31 9 (.slice (some ⟨w.heap.size, 0, none⟩) (Lib.nDigits u) 24)).run Tryd.prog ((putRow (fun (b : UInt8) => Value.int .u8 (b.toNat : Int)) (w.alloc (.cells Lib.zeros24 40)) w.heap.size 0 dk).drewN k) = .ok (.string ⟨(Lib.decDigits u).toArray⟩) ((putRow (fun (b : UInt8) => Value.int .u8 (b.toNat : Int)) (w.alloc (.cells Lib.zeros24 40)) w.heap.size 0 dk).drewN k) := by
      have h := run_convert_bytes_back (P := Tryd.prog) ((putRow (fun (b : UInt8) => Value.int .u8 (b.toNat : Int)) (w.alloc (.cells Lib.zeros24 40)) w.heap.size 0 dk).drewN k) 31 9 5 ⟨w.heap.size, 0, none⟩ 24 (Lib.decDigits u) Tryd.underlying31 Tryd.underlying5 Tryd.underlying9 (fun j hj => by
        rw [Lib.row_is_numeral hF j hj, Lib.add_plain, World.cell?_drewN]
        exact cell?_putRow (fun (b : UInt8) => Value.int .u8 (b.toNat : Int)) _ w.heap.size 0 _ dk HH0.out (by rw [hF.size, Array.size_replicate]) j (by rw [hF.size]; rw [Lib.decDigits_length] at hj; exact hj))
      rw [Lib.decDigits_length] at h
      exact h
    go_wp2
    go_ret
    obtain ⟨os, eo⟩ := fin_pos0 w (.cells Lib.zeros24 40) dk k
    exact ⟨rfl, k, os, eo⟩

theorem below_grow (w : World) (k : Nat) (os : Array Obj) : Below w.heap.size w (grow (w.drewN k) os) :=
  ⟨rfl, rfl, rfl, by show w.heap.size ≤ (w.heap ++ os).size; rw [Array.size_append]; omega, fun j hj => by
    show (w.heap ++ os)[j]? = w.heap[j]?
    rw [Array.getElem?_append_left hj]⟩

/-- A listed table reads on as it did. -/
theorem tab_on' {P : Program} {name : String} {k : IntKind} {zs : List Int} {w w' : World} (h : Lib.TabIs P w name k zs) (hb : Below w.heap.size w w') : Lib.TabIs P w' name k zs := by
  unfold Lib.TabIs World.var? at *
  cases hg : P.globalNamed name with
  | none => simp [hg] at h
  | some g =>
    simp only [hg, Option.bind_some] at h ⊢
    have hlt : g < w.heap.size := by
      rcases Nat.lt_or_ge g w.heap.size with h' | h'
      · exact h'
      · rw [Array.getElem?_eq_none h'] at h; simp at h
    rw [hb.block g hlt]
    exact h
/-- The row's table. -/
def Tab (w : World) : Prop := Lib.TabIs Tryd.prog w Tryd.tabName .u64 Lib.pow10Tab
theorem tab_on {w w' : World} (h : Tab w) (hb : Below w.heap.size w w') : Tab w' := tab_on' h hb

set_option maxRecDepth 100000 in
theorem formatUint_10 (u : Nat) (hu64 : u < 18446744073709551616) (w : World) (htab : Tab w) :
    Calls Tryd.prog 12 #[.int .u64 u, .int .i64 10] w fun e w' => e = .returned (.string ⟨(Lib.decDigits u).toArray⟩) ∧ Below w.heap.size w w' := by
  go_enter Tryd.func12, Tryd.ntmps12
  go_wp2_with (go_at_call 15; refine (formatUint_in u hu64 _ htab).mono ?_; rintro e w' ⟨rfl, k, os, rfl⟩)
  go_ret
  exact ⟨rfl, below_grow w k os⟩
end Go.Proofs.Qxb6615098aDoor
