import Derived.Test.Qxb6615484aTxFacts
import Derived.Test.Qxb6615484aNewTx
namespace Go.Proofs.Qxb6615484a
open Go.RowKit Go.Maps

theorem Try.info9 : (Try.prog.info? 9).map (fun i => (i.zero, i.size, i.bytes)) = some (some (.string ⟨#[]⟩), 1, 16) := by kernel_rfl
theorem Try.info4 : (Try.prog.info? 4).map (fun i => (i.zero, i.size, i.bytes)) = some (some (.bool false), 1, 1) := by kernel_rfl

theorem At.on {w w' : World} {a : Option Addr} {n : Nat} {f : Nat → Value} (h : At w a n f) (hb : Below w.heap.size w w') : At w' a n f := by
  rcases h with h | ⟨b, o, ha, hlt, hc⟩
  · exact Or.inl h
  · exact Or.inr ⟨b, o, ha, Nat.lt_of_lt_of_le hlt hb.size, fun j hj => (hb.cell (p := ⟨b, o + j, none⟩) hlt).trans (hc j hj)⟩
theorem made_at {w : World} {g base e n : Nat} {z : Value} (h : w.ownsRow base e 1 (.slice (some ⟨g, 0, none⟩) n n) n (madeCells #[z] (n * 1)).toList) (hg : g < w.heap.size) : At w (some ⟨g, 0, none⟩) n (fun _ => z) := by
  refine Or.inr ⟨g, 0, rfl, hg, fun j hj => ?_⟩
  rw [Nat.zero_add, h.cellAt j (by omega), toList_madeCells_one, Nat.mul_one, List.getElem?_replicate, if_pos hj]

set_option maxHeartbeats 800000 in
set_option maxRecDepth 100000 in
theorem zzWait_any (st : Int) (hst : (st == 0) = false) (u x p d : Bool) (fin told : List Bool) (subs : List Sub) (aF aW aC aI aT : Option Addr) (cF cW cC cI cT : Nat) (w : World)
    (hlB : fin.length ≤ 4096) (hlS : subs.length ≤ 4096) (hlT : told.length = subs.length) (hfit : ∀ s ∈ subs, Fits s)
    (hF : At w aF fin.length (fun j => .bool (fin.getD j false)))
    (hW : At w aW subs.length (fun j => .string (subs.getD j (ByteArray.empty, ByteArray.empty, ByteArray.empty)).1)) (hC : At w aC subs.length (fun j => .string (subs.getD j (ByteArray.empty, ByteArray.empty, ByteArray.empty)).2.1)) (hI : At w aI subs.length (fun j => .string (subs.getD j (ByteArray.empty, ByteArray.empty, ByteArray.empty)).2.2))
    (hT : At w aT subs.length (fun j => .bool (told.getD j false))) :
    Calls Try.prog 9 #[.int .i64 st, .int .i64 0, .bool u, .bool x, .bool p, .bool d, .slice aF fin.length cF, .slice aW subs.length cW, .slice aC subs.length cC, .slice aI subs.length cI, .slice aT subs.length cT] w
      fun e w' => e = .returned (.int .i64 (ans fin subs (DTo subs told subs.length))) ∧ Below w.heap.size w w' := by
  have HF := Lib.hid hF; have HW := Lib.hid hW; have HC := Lib.hid hC; have HI := Lib.hid hI; have HT := Lib.hid hT
  clear hF hW hC hI hT
  obtain ⟨i9, hi9, hz9, hs9, hb9⟩ := info_parts Try.info9
  obtain ⟨i4, hi4, hz4, hs4, hb4⟩ := info_parts Try.info4
  obtain ⟨w1, hrun1, hown1, hgrow1⟩ := run_make_full (P := Try.prog) w w.heap.size 22 9 i9 _ 1 Try.underlying22 hi9 hz9 hs9 .i64 .i64 fin.length (by rw [hb9]; omega) (by unfold maxLen; omega) (Nat.le_refl _)
  obtain ⟨w2, hrun2, hown2, hgrow2⟩ := run_make_full (P := Try.prog) w1 w1.heap.size 23 4 i4 _ 1 Try.underlying23 hi4 hz4 hs4 .i64 .i64 fin.length (by rw [hb4]; omega) (by unfold maxLen; omega) (Nat.le_refl _)
  have hw1 : Below w.heap.size w w1 := (Below.refl _ _).grown hgrow1 (Nat.le_refl _) (fun k h => by cases h)
  have hw2 : Below w.heap.size w w2 := hw1.grown hgrow2 hw1.size (fun k h => by cases h)
  have hl1 : w.heap.size < w1.heap.size := (hown1.lt w.heap.size rfl).2
  have hl2 : w1.heap.size < w2.heap.size := (hown2.lt w1.heap.size rfl).2
  have hown1' := hown1.kept hgrow2 (Or.inr (by simp [Value.ownBlock]))
  have hR : At w2 (some ⟨w.heap.size, 0, none⟩) fin.length (fun _ => .string ByteArray.empty) := made_at hown1' (by omega)
  have hH : At w2 (some ⟨w1.heap.size, 0, none⟩) fin.length (fun _ => .bool false) := made_at hown2 hl2
  have HN := Lib.hid (newTx_any st u x p d fin told subs (some ⟨w.heap.size, 0, none⟩) (some ⟨w1.heap.size, 0, none⟩) aF aW aC aI aT fin.length fin.length cF cW cC cI cT w2 hlB hlS hlT hfit hR hH (At.on HF.out hw2) (At.on HW.out hw2) (At.on HC.out hw2) (At.on HI.out hw2) (At.on HT.out hw2))
  clear hR hH hown1 hown1' hown2 hgrow1 hgrow2 HF HW HC HI HT hl1 hl2 hw1
  go_enter Try.func9, Try.ntmps9
  go_wp2_with fail
  refine HN.out.mono ?_
  rintro e w3 ⟨T, M, nM, bB, bS, vB, vS, rfl, htx, hB, hS, hM, hb3⟩
  have HW := Lib.hid (zzWaitingOn_any T M nM bB bS st vB vS fin subs _ w3 hst hlB hlS hfit htx.1 htx.2.1 htx.2.2.1 htx.2.2.2.1 htx.2.2.2.2.1 hB hS hM)
  clear htx hB hS hM HN hrun1 hrun2
  go_wp2_with fail
  refine HW.out.mono ?_
  rintro e w4 ⟨rfl, hb4⟩
  go_wp2
  go_ret
  exact ⟨rfl, (hw2.trans (hb3.mono hw2.size)).trans (hb4.mono (Nat.le_trans hw2.size hb3.size))⟩
end Go.Proofs.Qxb6615484a
