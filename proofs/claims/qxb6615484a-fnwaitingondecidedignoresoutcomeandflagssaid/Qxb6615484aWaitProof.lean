import Derived.Test.Qxb6615484aRows
import Derived.Test.Qxb6615484aTop
import Derived.SliceStrings
import Derived.Deep.Grids
namespace Go.Proofs.Qxb6615484a.fnWaitingOnDecidedIgnoresOutcomeAndFlags
open Go.ChangeShapes Go.WideShapes Go.ChangeAt Go.RowKit

theorem at_of_cells {w : World} {a : Addr} {n : Nat} {f : Nat → Value} (h : ∀ i, i < n → w.cell? (a.add i) = some (f i)) : At w (some a) n f := by
  rcases Nat.eq_zero_or_pos n with h0 | hp
  · exact Or.inl h0
  · obtain ⟨b, off, spot⟩ := a
    have hspot : spot = none := by simpa [Addr.add] using World.cell?_spot (h 0 hp)
    subst hspot
    have hc : ∀ j, j < n → w.cell? ⟨b, off + j, none⟩ = some (f j) := fun j hj => by rw [← Go.WideShapes.add_plain]; exact h j hj
    exact Or.inr ⟨b, off, rfl, blk_of_cell (hc 0 hp), hc⟩

theorem open_strs_at {H : Type} {enc : TypeId × Value → H} {W : World} {r : Reach} {bw : Nat} {v : Value} {d : DataW H} {p : List MemPlace}
    (hok : Value.okWide Try.prog W r bw 22 v) (h : DataW.Trod enc Try.prog W 0 (fun _ => true) true 22 v d p) :
    ∃ (a : Option Addr) (l : List ByteArray) (cap : Nat), v = .slice a l.length cap ∧ l.length ≤ maxLen ∧ (∀ s ∈ l, s.size ≤ maxLen) ∧ At W a l.length (fun j => .string (l.getD j ByteArray.empty)) := by
  obtain ⟨a0, len0, cap0, rfl⟩ := okWide_slice Try.underlying22 hok
  obtain ⟨fuel, hf⟩ := h
  rcases open_strings Try.underlying22 Try.underlying9 Try.cells9 hf with ⟨hcs, _⟩ | ⟨a, len, cap, ss, hcs, _, hl, hm, hz, _, hcell, hws⟩
  · simp [Value.cells] at hcs
    obtain ⟨rfl, rfl, rfl⟩ := hcs
    exact ⟨none, [], 0, rfl, by simp, by simp, Or.inl rfl⟩
  · simp [Value.cells] at hcs
    obtain ⟨rfl, rfl, rfl⟩ := hcs
    have hz' : ss.length = cap0 := by simpa using hz
    have e : (ss.take len0).length = len0 := by rw [List.length_take]; omega
    refine ⟨some a, ss.take len0, cap0, by rw [e], by rw [e]; omega, fun s hs => hws s (List.mem_of_mem_take hs), ?_⟩
    rw [e]
    refine at_of_cells (fun i hi => ?_)
    rw [hcell i (by omega)]
    simp [List.getD_eq_getElem?_getD, hi]

theorem open_bools_at {H : Type} {enc : TypeId × Value → H} {W : World} {r : Reach} {bw : Nat} {v : Value} {d : DataW H} {p : List MemPlace}
    (hok : Value.okWide Try.prog W r bw 23 v) (h : DataW.Trod enc Try.prog W 0 (fun _ => true) true 23 v d p) :
    ∃ (a : Option Addr) (l : List Bool) (cap : Nat), v = .slice a l.length cap ∧ l.length ≤ maxLen ∧ At W a l.length (fun j => .bool (l.getD j false)) := by
  obtain ⟨a0, len0, cap0, rfl⟩ := okWide_slice Try.underlying23 hok
  obtain ⟨fuel, hf⟩ := h
  rcases Deep.open_bools Try.underlying23 Try.underlying4 Try.cells4 hf with ⟨hcs, _⟩ | ⟨a, len, cap, B, hcs, _, hl, hm, _, hcell⟩
  · simp [Value.cells] at hcs
    obtain ⟨rfl, rfl, rfl⟩ := hcs
    exact ⟨none, [], 0, rfl, by simp, Or.inl rfl⟩
  · simp [Value.cells] at hcs
    obtain ⟨rfl, rfl, rfl⟩ := hcs
    have e : ((List.range len0).map B).length = len0 := by simp
    refine ⟨some a, (List.range len0).map B, cap0, by rw [e], by rw [e]; omega, ?_⟩
    rw [e]
    refine at_of_cells (fun i hi => ?_)
    rw [hcell i (by omega)]
    simp [List.getD_eq_getElem?_getD, hi]

/-- Three lists of one length, put together. -/
def zip3 (lW lC lI : List ByteArray) : List Sub := (List.range lW.length).map fun j => (lW.getD j ByteArray.empty, lC.getD j ByteArray.empty, lI.getD j ByteArray.empty)
theorem zip3_len (lW lC lI : List ByteArray) : (zip3 lW lC lI).length = lW.length := by unfold zip3; simp
theorem zip3_at (lW lC lI : List ByteArray) (j : Nat) (h : j < lW.length) : (zip3 lW lC lI).getD j (ByteArray.empty, ByteArray.empty, ByteArray.empty) = (lW.getD j ByteArray.empty, lC.getD j ByteArray.empty, lI.getD j ByteArray.empty) := by
  unfold zip3
  simp [List.getD_eq_getElem?_getD, h]
theorem at_congr {w : World} {a : Option Addr} {n m : Nat} {f g : Nat → Value} (h : At w a n f) (hn : n = m) (hfg : ∀ j, j < m → f j = g j) : At w a m g := by
  subst hn
  rcases h with h | ⟨b, o, ha, hlt, hc⟩
  · exact Or.inl h
  · exact Or.inr ⟨b, o, ha, hlt, fun j hj => by rw [← hfg j hj]; exact hc j hj⟩
theorem getD_fits {l : List ByteArray} (h : ∀ s ∈ l, s.size ≤ maxLen) (j : Nat) : (l.getD j ByteArray.empty).size ≤ maxLen := by
  rw [List.getD_eq_getElem?_getD]
  cases hj : l[j]? with
  | none => exact Nat.zero_le _
  | some s => exact h s (List.mem_of_getElem? hj)

theorem walk (u x p d : Bool) (fin told : List Bool) (lW lC lI : List ByteArray) (aF aW aC aI aT : Option Addr) (cF cW cC cI cT : Nat) (w : World)
    (hmF : fin.length ≤ maxLen) (hmW : lW.length ≤ maxLen) (hmC : lC.length ≤ maxLen) (hmI : lI.length ≤ maxLen) (hmT : told.length ≤ maxLen)
    (sW : ∀ s ∈ lW, s.size ≤ maxLen) (sC : ∀ s ∈ lC, s.size ≤ maxLen) (sI : ∀ s ∈ lI, s.size ≤ maxLen)
    (hF : At w aF fin.length (fun j => .bool (fin.getD j false)))
    (hW : At w aW lW.length (fun j => .string (lW.getD j ByteArray.empty))) (hC : At w aC lC.length (fun j => .string (lC.getD j ByteArray.empty))) (hI : At w aI lI.length (fun j => .string (lI.getD j ByteArray.empty)))
    (hT : At w aT told.length (fun j => .bool (told.getD j false))) :
    Calls Try.prog 4 #[.bool u, .bool x, .bool p, .bool d, .slice aF fin.length cF, .slice aW lW.length cW, .slice aC lC.length cC, .slice aI lI.length cI, .slice aT told.length cT] w
      fun e w' => e = .returned (.bool true) ∧ Below w.heap.size w w' := by
  by_cases hl : lC.length = lW.length ∧ lI.length = lW.length ∧ told.length = lW.length
  · obtain ⟨h1, h2, h3⟩ := hl
    have e := zip3_len lW lC lI
    have hz := zip3_at lW lC lI
    have h := top_eq u x p d fin told (zip3 lW lC lI) aF aW aC aI aT cF cW cC cI cT w hmF (by rw [e]; exact hmW) (by rw [e]; exact h3)
      (fun s hs => by
        unfold zip3 at hs
        obtain ⟨j, _, rfl⟩ := List.mem_map.1 hs
        exact ⟨getD_fits sW j, getD_fits sC j, getD_fits sI j⟩)
      hF (at_congr hW e.symm (fun j hj => by rw [hz j (by omega)])) (at_congr hC (by omega) (fun j hj => by rw [hz j (by omega)])) (at_congr hI (by omega) (fun j hj => by rw [hz j (by omega)])) (at_congr hT (by omega) (fun _ _ => rfl))
    rw [e] at h
    rw [h1, h2, h3]
    exact h
  · exact top_ne u x p d fin told lW lC lI aF aW aC aI aT cF cW cC cI cT w hmF hmW hmC hmI hmT hW hC hI hl

set_option maxRecDepth 100000 in
theorem lifted (os : Os) (started : os.Started) (H : Type) (enc : TypeId × Value → H) :
    ReturnsInHanded {} Try.checked os 4 .any (Rows.fnWaitingOnDecidedIgnoresOutcomeAndFlagsSpec.pre6 enc Try.prog Try.f4 Rows.fnWaitingOnDecidedIgnoresOutcomeAndFlagsRow.domain false) (Rows.fnWaitingOnDecidedIgnoresOutcomeAndFlagsSpec.post enc Try.prog Try.f4 false true false false) := by
  refine returnsInHanded_of_change (C := Try.checked) own started (by kernel_rfl) Try.func4
    (ChangeSpec.witness6 (enc := enc) (C := Try.checked) false ⟨#[], #[.bool false, .bool false, .bool false, .bool false, .slice none 0 0, .slice none 0 0, .slice none 0 0, .slice none 0 0, .slice none 0 0], []⟩ 8 (by kernel_rfl) (by kernel_rfl) (by kernel_rfl) (by kernel_rfl)) ?_
  intro W base args ds gs before hval0 hW hcnd _
  have hval : ∀ (j : Nat) t v, Try.f4.params[j]? = some t → args[j]? = some v → Value.okWide Try.prog W .any base t v := hval0
  have hW' := hW
  obtain ⟨p, q, hA0, hV, rfl, hfz, hnd⟩ := hW
  have hA : DataW.TrodAll enc Try.prog W 0 (fun _ => true) true Try.f4.params.toList args.toList ds p := hA0
  rw [Try.params4] at hA hval
  obtain ⟨v0, vs0, d0, ds0, p0, q0, hargs, rfl, rfl, h0, r0⟩ := trodAll_cons hA
  obtain ⟨v1, vs1, d1, ds1, p1, q1, rfl, rfl, rfl, h1, r1⟩ := trodAll_cons r0
  obtain ⟨v2, vs2, d2, ds2, p2, q2, rfl, rfl, rfl, h2, r2⟩ := trodAll_cons r1
  obtain ⟨v3, vs3, d3, ds3, p3, q3, rfl, rfl, rfl, h3, r3⟩ := trodAll_cons r2
  obtain ⟨v4, vs4, d4, ds4, p4, q4, rfl, rfl, rfl, h4, r4⟩ := trodAll_cons r3
  obtain ⟨v5, vs5, d5, ds5, p5, q5, rfl, rfl, rfl, h5, r5⟩ := trodAll_cons r4
  obtain ⟨v6, vs6, d6, ds6, p6, q6, rfl, rfl, rfl, h6, r6⟩ := trodAll_cons r5
  obtain ⟨v7, vs7, d7, ds7, p7, q7, rfl, rfl, rfl, h7, r7⟩ := trodAll_cons r6
  obtain ⟨v8, vs8, d8, ds8, p8, q8, rfl, rfl, rfl, h8, r8⟩ := trodAll_cons r7
  obtain ⟨rfl, rfl, rfl⟩ := trodAll_nil r8
  obtain rfl : args = #[v0, v1, v2, v3, v4, v5, v6, v7, v8] := by cases args; simp_all
  obtain ⟨rfl, rfl⟩ := trodVars_none hV
  obtain ⟨b0, rfl, rfl, rfl⟩ := open_bool Try.underlying4 (hval 0 4 v0 rfl rfl) h0
  obtain ⟨b1, rfl, rfl, rfl⟩ := open_bool Try.underlying4 (hval 1 4 v1 rfl rfl) h1
  obtain ⟨b2, rfl, rfl, rfl⟩ := open_bool Try.underlying4 (hval 2 4 v2 rfl rfl) h2
  obtain ⟨b3, rfl, rfl, rfl⟩ := open_bool Try.underlying4 (hval 3 4 v3 rfl rfl) h3
  obtain ⟨aF, fin, cF, rfl, mF, gF⟩ := open_bools_at (hval 4 23 v4 rfl rfl) h4
  obtain ⟨aW, lW, cW, rfl, mW, sW, gW⟩ := open_strs_at (hval 5 22 v5 rfl rfl) h5
  obtain ⟨aC, lC, cC, rfl, mC, sC, gC⟩ := open_strs_at (hval 6 22 v6 rfl rfl) h6
  obtain ⟨aI, lI, cI, rfl, mI, sI, gI⟩ := open_strs_at (hval 7 22 v7 rfl rfl) h7
  obtain ⟨aT, told, cT, rfl, mT, gT⟩ := open_bools_at (hval 8 23 v8 rfl rfl) h8
  have lt4 : ∀ x ∈ p4, x.block < W.heap.size := by obtain ⟨m, hm⟩ := h4; exact DataW.trod_lt m _ _ _ hm
  have lt5 : ∀ x ∈ p5, x.block < W.heap.size := by obtain ⟨m, hm⟩ := h5; exact DataW.trod_lt m _ _ _ hm
  have lt6 : ∀ x ∈ p6, x.block < W.heap.size := by obtain ⟨m, hm⟩ := h6; exact DataW.trod_lt m _ _ _ hm
  have lt7 : ∀ x ∈ p7, x.block < W.heap.size := by obtain ⟨m, hm⟩ := h7; exact DataW.trod_lt m _ _ _ hm
  have lt8 : ∀ x ∈ p8, x.block < W.heap.size := by obtain ⟨m, hm⟩ := h8; exact DataW.trod_lt m _ _ _ hm
  clear hA0 hval0
  refine (walk b0 b1 b2 b3 fin told lW lC lI aF aW aC aI aT cF cW cC cI cT W mF mW mC mI mT sW sC sI gF gW gC gI gT).mono fun e W' ⟨he, bel⟩ => ?_
  subst he
  exact ⟨_, rfl, _, _, _, [], _, [], hW', trodAll_mk1 (shut_bool Try.underlying4 _), (trodAll_cons_mk (shut_bool Try.underlying4 _) (trodAll_cons_mk (shut_bool Try.underlying4 _) (trodAll_cons_mk (shut_bool Try.underlying4 _) (trodAll_cons_mk (shut_bool Try.underlying4 _) (trodAll_cons_mk (Below.trod Try.laidOut (by kernel_rfl) (of_decide_eq_true (by kernel_rfl)) h4 bel lt4) (trodAll_cons_mk (Below.trod Try.laidOut (by kernel_rfl) (of_decide_eq_true (by kernel_rfl)) h5 bel lt5) (trodAll_cons_mk (Below.trod Try.laidOut (by kernel_rfl) (of_decide_eq_true (by kernel_rfl)) h6 bel lt6) (trodAll_cons_mk (Below.trod Try.laidOut (by kernel_rfl) (of_decide_eq_true (by kernel_rfl)) h7 bel lt7) (trodAll_cons_mk (Below.trod Try.laidOut (by kernel_rfl) (of_decide_eq_true (by kernel_rfl)) h8 bel lt8) trodAll_mk0))))))))), rfl, bel.frame _, fun h => by cases h⟩

theorem proved : Rows.FnWaitingOnDecidedIgnoresOutcomeAndFlagsSaid :=
  OpenClaim.holds_of_wide 4 Try.f4 rfl rfl rfl rfl rfl rfl rfl ⟨rfl, rfl, rfl, rfl, rfl⟩ rfl rfl rfl rfl rfl (by kernel_rfl) Try.func4 (by kernel_rfl)
    (of_decide_eq_true (by kernel_rfl)) (by unfold Func.isWrapper; first | (rw [if_pos (by decide +kernel)]; kernel_rfl) | (rw [if_neg (by decide +kernel)]; exact ⟨rfl, rfl⟩))
    (fun os started H enc _ => lifted os started H enc)
end Go.Proofs.Qxb6615484a.fnWaitingOnDecidedIgnoresOutcomeAndFlags
