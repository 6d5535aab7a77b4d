import Derived.Test.Qxb6615484aFind
namespace Go.Proofs.Qxb6615484a
open Go.RowKit Go.Maps

/-- What waitingOn answers for a decided transaction that is not over. -/
def ans (fin : List Bool) (subs : List Sub) (D : DataW Unit) : Int := if anyNo fin = true then 4 else if anyMiss D subs = true then 5 else 4

theorem row_below {w wr : World} {base e n : Nat} {v : Value} {xs : List Value} (h : w.ownsRow base e 3 v n xs) (hb : Below w.heap.size w wr) : wr.ownsRow base e 3 v n xs :=
  h.kept (row := none) ⟨hb.os, hb.tape, hb.output, hb.size, fun k hk _ => hb.block k hk⟩ (by cases hv : v.ownBlock with | none => exact Or.inl rfl | some g => exact Or.inr (by simp))

set_option maxHeartbeats 1600000 in
theorem wait_any (T M nM bB bS : Nat) (st : Int) (vB vS : Value) (fin : List Bool) (subs : List Sub) (D : DataW Unit) (w : World)
    (hst : (st == 0) = false) (hlB : fin.length ≤ 4096) (hlS : subs.length ≤ 4096) (hfit : ∀ s ∈ subs, Fits s)
    (c0 : w.cell? ⟨T, 0, none⟩ = some (.int .i64 st)) (c3 : w.cell? ⟨T, 3, none⟩ = some vB) (c4 : w.cell? ⟨T, 4, none⟩ = some vS) (c5 : w.cell? ⟨T, 5, none⟩ = some (.map (some M))) (c13 : w.cell? ⟨T, 13, none⟩ = some (.int .i64 0))
    (hB : w.ownsRow bB 68 3 vB fin.length (brCs fin)) (hS : w.ownsRow bS 70 3 vS subs.length (rCs subs)) (hM : Owns w M nM D) :
    Calls Try.prog 15 #[.pointer (some ⟨T, 0, none⟩)] w fun e w' => e = .returned (.int .i64 (ans fin subs D)) ∧ Below w.heap.size w w' := by
  have hT := blk_of_cell c0
  have HC := Lib.hid (contains_br fin vB bB (w.alloc (.cells #[.pointer (some ⟨T, 0, none⟩)] 32)) hlB (hB.alloc _))
  have h3a : ∀ o : Obj, (w.alloc o).cell? ⟨T, 3, none⟩ = some vB := fun o => by rw [World.cell?_alloc_old _ _ _ (by show T ≠ w.heap.size; omega)]; exact c3
  have HB := Lib.hid hB
  have HS := Lib.hid hS
  have HM := Lib.hid hM
  clear hB hS hM
  have hst' : ¬ st = 0 := by simpa using hst
  cases hno : anyNo fin
  · cases hmi : anyMiss D subs
    all_goals
      have Hno := Lib.hid hno
      have Hmi := Lib.hid hmi
      rw [hno] at HC
      clear hno hmi
      go_enter Try.func15, Try.ntmps15
      go_wp2_with fail
      refine HC.out.mono ?_
      rintro e w1 ⟨rfl, hb1⟩
      have hbw : Below w.heap.size w w1 := ((Below.refl _ _).alloc (Nat.le_refl _) _).trans (hb1.mono (by simp))
      have d0 := (hbw.cell (p := ⟨T, 0, none⟩) hT).trans c0
      have d4 := (hbw.cell (p := ⟨T, 4, none⟩) hT).trans c4
      have d5 := (hbw.cell (p := ⟨T, 5, none⟩) hT).trans c5
      have d13 := (hbw.cell (p := ⟨T, 13, none⟩) hT).trans c13
      have dX : w1.cell? ⟨w.heap.size, 0, none⟩ = some (.pointer (some ⟨T, 0, none⟩)) := (hb1.cell (p := ⟨w.heap.size, 0, none⟩) (by simp)).trans (World.cell?_alloc_new _ _ _ _)
      have HCS := Lib.hid (contains_sub subs vS bS w.heap.size T M nM D w1 hlS hfit (row_below HS.out hbw) dX d5 (owns_below HM.out hbw))
      rw [Hmi.out] at HCS
      clear hb1 h3a c0 c3 c4 c5 c13 HC HB HS HM
      go_wp2_with fail
      refine HCS.out.mono ?_
      rintro e w2 ⟨rfl, hb2⟩
      go_wp2
      go_ret
      exact ⟨ret_int (by unfold ans; rw [Hno.out, Hmi.out]; rfl), hbw.trans (hb2.mono hbw.size)⟩
  · have Hno := Lib.hid hno
    rw [hno] at HC
    clear hno
    go_enter Try.func15, Try.ntmps15
    go_wp2_with fail
    refine HC.out.mono ?_
    rintro e w1 ⟨rfl, hb1⟩
    have hbw : Below w.heap.size w w1 := ((Below.refl _ _).alloc (Nat.le_refl _) _).trans (hb1.mono (by simp))
    have d0 := (hbw.cell (p := ⟨T, 0, none⟩) hT).trans c0
    have d13 := (hbw.cell (p := ⟨T, 13, none⟩) hT).trans c13
    have dX : w1.cell? ⟨w.heap.size, 0, none⟩ = some (.pointer (some ⟨T, 0, none⟩)) := (hb1.cell (p := ⟨w.heap.size, 0, none⟩) (by simp)).trans (World.cell?_alloc_new _ _ _ _)
    clear hb1 h3a c0 c3 c4 c5 c13 HC HB HS HM
    go_wp2
    go_ret
    exact ⟨ret_int (by unfold ans; rw [Hno.out]; rfl), hbw⟩

theorem zzWaitingOn_any (T M nM bB bS : Nat) (st : Int) (vB vS : Value) (fin : List Bool) (subs : List Sub) (D : DataW Unit) (w : World)
    (hst : (st == 0) = false) (hlB : fin.length ≤ 4096) (hlS : subs.length ≤ 4096) (hfit : ∀ s ∈ subs, Fits s)
    (c0 : w.cell? ⟨T, 0, none⟩ = some (.int .i64 st)) (c3 : w.cell? ⟨T, 3, none⟩ = some vB) (c4 : w.cell? ⟨T, 4, none⟩ = some vS) (c5 : w.cell? ⟨T, 5, none⟩ = some (.map (some M))) (c13 : w.cell? ⟨T, 13, none⟩ = some (.int .i64 0))
    (hB : w.ownsRow bB 68 3 vB fin.length (brCs fin)) (hS : w.ownsRow bS 70 3 vS subs.length (rCs subs)) (hM : Owns w M nM D) :
    Calls Try.prog 13 #[.pointer (some ⟨T, 0, none⟩)] w fun e w' => e = .returned (.int .i64 (ans fin subs D)) ∧ Below w.heap.size w w' := by
  have H := Lib.hid (wait_any T M nM bB bS st vB vS fin subs D w hst hlB hlS hfit c0 c3 c4 c5 c13 hB hS hM)
  clear c0 c3 c4 c5 c13 hB hS hM hst
  go_enter Try.func13, Try.ntmps13
  go_wp2_with fail
  refine H.out.mono ?_
  rintro e w1 ⟨rfl, hb⟩
  go_wp2
  go_ret
  exact ⟨rfl, hb⟩
end Go.Proofs.Qxb6615484a
