import Derived.Test.Qxb6615484aWait
import Derived.Test.Qxb6615484aGuard
namespace Go.Proofs.Qxb6615484a
open Go.RowKit Go.Maps

theorem at_map {w : World} {a : Option Addr} {subs : List Sub} {f : Sub → ByteArray} (h : At w a subs.length (fun j => .string (f (subs.getD j (ByteArray.empty, ByteArray.empty, ByteArray.empty))))) :
    At w a (subs.map f).length (fun j => .string ((subs.map f).getD j ByteArray.empty)) := by
  rcases h with h | ⟨b, o, ha, hlt, hc⟩
  · exact Or.inl (by simpa using h)
  · refine Or.inr ⟨b, o, ha, hlt, fun j hj => ?_⟩
    have hj' : j < subs.length := by simpa using hj
    rw [hc j hj']
    simp [List.getD_eq_getElem?_getD, hj']

theorem ans_two (fin : List Bool) (subs : List Sub) (D : DataW Unit) : ans fin subs D = 4 ∨ (ans fin subs D = 5 ∧ anyNo fin = false) := by
  unfold ans
  cases h : anyNo fin
  · cases h2 : anyMiss D subs
    · exact Or.inl rfl
    · exact Or.inr ⟨rfl, rfl⟩
  · exact Or.inl rfl
/-- allDone, as far as it is reckoned. -/
def doneTo (fin : List Bool) (k : Nat) : Bool := !((fin.take k).any (!·))
theorem doneTo_succ (fin : List Bool) (k : Nat) (h : k < fin.length) : doneTo fin (k + 1) = (doneTo fin k && fin.getD k false) := by
  unfold doneTo
  rw [List.take_succ_eq_append_getElem h, List.any_append, List.getD_eq_getElem?_getD, List.getElem?_eq_getElem h]
  cases fin[k] <;> simp
theorem doneTo_end (fin : List Bool) (k : Nat) (h : ¬ k < fin.length) : doneTo fin k = !anyNo fin := by
  unfold doneTo anyNo
  rw [List.take_of_length_le (by omega)]

set_option maxHeartbeats 1600000 in
set_option maxRecDepth 100000 in
theorem top_eq (u x p d : Bool) (fin told : List Bool) (subs : List Sub) (aF aW aC aI aT : Option Addr) (cF cW cC cI cT : Nat) (w : World)
    (hmF : fin.length ≤ maxLen) (hmS : subs.length ≤ maxLen) (hlT : told.length = subs.length) (hfit : ∀ s ∈ subs, Fits s)
    (hF : At w aF fin.length (fun j => .bool (fin.getD j false)))
    (hW : At w aW subs.length (fun j => .string (subs.getD j (ByteArray.empty, ByteArray.empty, ByteArray.empty)).1)) (hC : At w aC subs.length (fun j => .string (subs.getD j (ByteArray.empty, ByteArray.empty, ByteArray.empty)).2.1)) (hI : At w aI subs.length (fun j => .string (subs.getD j (ByteArray.empty, ByteArray.empty, ByteArray.empty)).2.2))
    (hT : At w aT subs.length (fun j => .bool (told.getD j false))) :
    Calls Try.prog 4 #[.bool u, .bool x, .bool p, .bool d, .slice aF fin.length cF, .slice aW subs.length cW, .slice aC subs.length cC, .slice aI subs.length cI, .slice aT subs.length cT] w
      fun e w' => e = .returned (.bool true) ∧ Below w.heap.size w w' := by
  have gW : At w aW (subs.map (·.1)).length (fun j => .string ((subs.map (·.1)).getD j ByteArray.empty)) := at_map hW
  have gC : At w aC (subs.map (·.2.1)).length (fun j => .string ((subs.map (·.2.1)).getD j ByteArray.empty)) := at_map hC
  have gI : At w aI (subs.map (·.2.2)).length (fun j => .string ((subs.map (·.2.2)).getD j ByteArray.empty)) := at_map hI
  have B8 := bytes_any u x p d fin told (subs.map (·.1)) (subs.map (·.2.1)) (subs.map (·.2.2)) aF aW aC aI aT cF cW cC cI cT w hmF (by simpa using hmS) (by simpa using hmS) (by simpa using hmS) (by rw [hlT]; exact hmS) gW gC gI
  simp only [List.length_map, hlT] at B8
  have H8 := Lib.hid B8
  clear B8
  by_cases hsm : fin.length ≤ 4096 ∧ subs.length ≤ 4096
  · obtain ⟨hlB, hlS⟩ := hsm
    have B6 := txOut_small fin told (subs.map (·.1)) (subs.map (·.2.1)) (subs.map (·.2.2)) aF aW aC aI aT cF cW cC cI cT w hlB (by simpa using hlS) (by simpa using hlS) (by simpa using hlS) (by rw [hlT]; exact hlS) gW gC gI
    simp only [List.length_map, hlT] at B6
    have H6 := Lib.hid B6
    have HZ := Lib.hid (fun (st : Int) (hst : (st == 0) = false) (u x p d : Bool) (w' : World) (hb : Below w.heap.size w w') => zzWait_any st hst u x p d fin told subs aF aW aC aI aT cF cW cC cI cT w' hlB hlS hlT hfit (hF.on hb) (hW.on hb) (hC.on hb) (hI.on hb) (hT.on hb))
    have HF := Lib.hid hF
    clear B6 gW gC gI hF hW hC hI hT hfit hlT
    unfold maxLen at hmF hmS
    generalize hDD : DTo subs told subs.length = D at HZ
    clear hDD
    rcases ans_two fin subs D with hA | ⟨hA, hno⟩
    · simp only [hA] at HZ
      clear hA
      go_enter Try.func4, Try.ntmps4
      go_wp2_with fail
      refine H8.out.mono ?_
      rintro e w' ⟨⟨b, rfl⟩, rfl⟩
      cases b
      · go_wp2
        go_ret
        exact ⟨rfl, Below.refl _ _⟩
      go_wp2_with fail
      refine H6.out.mono ?_
      rintro e w' ⟨⟨b, rfl⟩, rfl⟩
      cases b
      · clear H8 H6
        go_wp2_with fail
        refine (HZ.out 1 rfl _ _ _ _ _ (Below.refl _ _)).mono ?_
        rintro e w1 ⟨rfl, hb1⟩
        go_wp2_with fail
        refine (HZ.out 2 rfl _ _ _ _ _ hb1).mono ?_
        rintro e w2 ⟨rfl, hb2'⟩
        have hb2 := hb1.trans (hb2'.mono hb1.size)
        clear hb2' hb1
        go_wp2_with fail
        refine (HZ.out 1 rfl _ _ _ _ _ hb2).mono ?_
        rintro e w3 ⟨rfl, hb3'⟩
        have hb3 := hb2.trans (hb3'.mono hb2.size)
        clear hb3' hb2
        go_wp2_with fail
        refine (HZ.out 2 rfl _ _ _ _ _ hb3).mono ?_
        rintro e w4 ⟨rfl, hb4'⟩
        have hb4 := hb3.trans (hb4'.mono hb3.size)
        clear hb4' hb3 HZ
        have HF4 := Lib.hid (HF.out.on hb4)
        clear HF
        go_wp2
        go_loop [23, 24] (fun v i => ∃ k : Nat, k ≤ fin.length ∧ i = .int .i64 k ∧ v = .bool (doneTo fin k)) (fun _ i => fin.length - (RowKit.intOf i).toNat)
        case atStart => exact ⟨0, Nat.zero_le _, rfl, rfl⟩
        case round =>
          obtain ⟨k, hk, rfl, rfl⟩ := hrel
          by_cases hlt : k < fin.length
          · obtain ⟨bF, oF, rfl, hbF, hcF⟩ := HF4.out.resolve_left (by omega)
            have q : w4.cell? ⟨bF, oF + k, none⟩ = some (.bool (fin.getD k false)) := hcF k hlt
            have HS := Lib.hid (doneTo_succ fin k hlt)
            clear hcF HF4
            cases hf : fin.getD k false
            · rw [hf] at q HS
              clear hf
              go_wp2
              go_round
              case rel => exact ⟨k + 1, by omega, by go_num, by rw [HS.out]; simp⟩
              case measure => simp [RowKit.intOf]; omega
            · rw [hf] at q HS
              clear hf
              go_wp2
              go_round
              case rel => exact ⟨k + 1, by omega, by go_num, by rw [HS.out]; simp⟩
              case measure => simp [RowKit.intOf]; omega
          · clear HF4
            go_wp2
            all_goals go_ret
            all_goals exact ⟨rfl, hb4⟩
      · go_wp2
        go_ret
        exact ⟨rfl, Below.refl _ _⟩
    · simp only [hA] at HZ
      have HNO := Lib.hid hno
      clear hno
      clear hA
      go_enter Try.func4, Try.ntmps4
      go_wp2_with fail
      refine H8.out.mono ?_
      rintro e w' ⟨⟨b, rfl⟩, rfl⟩
      cases b
      · go_wp2
        go_ret
        exact ⟨rfl, Below.refl _ _⟩
      go_wp2_with fail
      refine H6.out.mono ?_
      rintro e w' ⟨⟨b, rfl⟩, rfl⟩
      cases b
      · clear H8 H6
        go_wp2_with fail
        refine (HZ.out 1 rfl _ _ _ _ _ (Below.refl _ _)).mono ?_
        rintro e w1 ⟨rfl, hb1⟩
        go_wp2_with fail
        refine (HZ.out 2 rfl _ _ _ _ _ hb1).mono ?_
        rintro e w2 ⟨rfl, hb2'⟩
        have hb2 := hb1.trans (hb2'.mono hb1.size)
        clear hb2' hb1
        go_wp2_with fail
        refine (HZ.out 1 rfl _ _ _ _ _ hb2).mono ?_
        rintro e w3 ⟨rfl, hb3'⟩
        have hb3 := hb2.trans (hb3'.mono hb2.size)
        clear hb3' hb2
        go_wp2_with fail
        refine (HZ.out 2 rfl _ _ _ _ _ hb3).mono ?_
        rintro e w4 ⟨rfl, hb4'⟩
        have hb4 := hb3.trans (hb4'.mono hb3.size)
        clear hb4' hb3 HZ
        have HF4 := Lib.hid (HF.out.on hb4)
        clear HF
        go_wp2
        go_loop [23, 24] (fun v i => ∃ k : Nat, k ≤ fin.length ∧ i = .int .i64 k ∧ v = .bool (doneTo fin k)) (fun _ i => fin.length - (RowKit.intOf i).toNat)
        case atStart => exact ⟨0, Nat.zero_le _, rfl, rfl⟩
        case round =>
          obtain ⟨k, hk, rfl, rfl⟩ := hrel
          by_cases hlt : k < fin.length
          · obtain ⟨bF, oF, rfl, hbF, hcF⟩ := HF4.out.resolve_left (by omega)
            have q : w4.cell? ⟨bF, oF + k, none⟩ = some (.bool (fin.getD k false)) := hcF k hlt
            have HS := Lib.hid (doneTo_succ fin k hlt)
            clear hcF HF4
            cases hf : fin.getD k false
            · rw [hf] at q HS
              clear hf
              go_wp2
              go_round
              case rel => exact ⟨k + 1, by omega, by go_num, by rw [HS.out]; simp⟩
              case measure => simp [RowKit.intOf]; omega
            · rw [hf] at q HS
              clear hf
              go_wp2
              go_round
              case rel => exact ⟨k + 1, by omega, by go_num, by rw [HS.out]; simp⟩
              case measure => simp [RowKit.intOf]; omega
          · clear HF4
            have hd : doneTo fin k = true := by rw [doneTo_end fin k hlt, HNO.out]; rfl
            go_wp2
            all_goals go_ret
            all_goals exact ⟨rfl, hb4⟩
      · go_wp2
        go_ret
        exact ⟨rfl, Below.refl _ _⟩
  · have h6 := Lib.hid (txOut_big fin.length subs.length subs.length subs.length subs.length aF aW aC aI aT cF cW cC cI cT w (fun h => hsm ⟨h.1, h.2.1⟩))
    clear gW gC gI hF hW hC hI hT hfit hsm
    unfold maxLen at hmF hmS
    go_enter Try.func4, Try.ntmps4
    go_wp2_with fail
    refine H8.out.mono ?_
    rintro e w' ⟨⟨b, rfl⟩, rfl⟩
    cases b
    · go_wp2
      go_ret
      exact ⟨rfl, Below.refl _ _⟩
    go_wp2_with fail
    refine h6.out.mono ?_
    rintro e w' ⟨rfl, rfl⟩
    go_wp2
    go_ret
    exact ⟨rfl, Below.refl _ _⟩

set_option maxHeartbeats 1600000 in
set_option maxRecDepth 100000 in
theorem top_ne (u x p d : Bool) (fin told : List Bool) (lW lC lI : List ByteArray) (aF aW aC aI aT : Option Addr) (cF cW cC cI cT : Nat) (w : World)
    (hmF : fin.length ≤ maxLen) (hmW : lW.length ≤ maxLen) (hmC : lC.length ≤ maxLen) (hmI : lI.length ≤ maxLen) (hmT : told.length ≤ maxLen)
    (hW : At w aW lW.length (fun j => .string (lW.getD j ByteArray.empty))) (hC : At w aC lC.length (fun j => .string (lC.getD j ByteArray.empty))) (hI : At w aI lI.length (fun j => .string (lI.getD j ByteArray.empty)))
    (hne : ¬ (lC.length = lW.length ∧ lI.length = lW.length ∧ told.length = lW.length)) :
    Calls Try.prog 4 #[.bool u, .bool x, .bool p, .bool d, .slice aF fin.length cF, .slice aW lW.length cW, .slice aC lC.length cC, .slice aI lI.length cI, .slice aT told.length cT] w
      fun e w' => e = .returned (.bool true) ∧ Below w.heap.size w w' := by
  have H8 := Lib.hid (bytes_any u x p d fin told lW lC lI aF aW aC aI aT cF cW cC cI cT w hmF hmW hmC hmI hmT hW hC hI)
  by_cases hsm : fin.length ≤ 4096 ∧ lW.length ≤ 4096 ∧ lC.length ≤ 4096 ∧ lI.length ≤ 4096 ∧ told.length ≤ 4096
  · obtain ⟨s1, s2, s3, s4, s5⟩ := hsm
    have H6 := Lib.hid (txOut_small fin told lW lC lI aF aW aC aI aT cF cW cC cI cT w s1 s2 s3 s4 s5 hW hC hI)
    clear hW hC hI
    unfold maxLen at hmF hmW hmC hmI hmT
    have hcase : ((lC.length : Int) != (lW.length : Int)) = true ∨ (((lC.length : Int) != (lW.length : Int)) = false ∧ ((lI.length : Int) != (lW.length : Int)) = true) ∨ (((lC.length : Int) != (lW.length : Int)) = false ∧ ((lI.length : Int) != (lW.length : Int)) = false ∧ ((told.length : Int) != (lW.length : Int)) = true) := by
      simp only [bne_iff_ne, ne_eq, bne_eq_false_iff_eq]
      omega
    clear hne
    rcases hcase with h1 | ⟨h1, h2⟩ | ⟨h1, h2, h3⟩
    all_goals
      go_enter Try.func4, Try.ntmps4
      go_wp2_with fail
      refine H8.out.mono ?_
      rintro e w' ⟨⟨b, rfl⟩, rfl⟩
      cases b
      · go_wp2
        go_ret
        exact ⟨rfl, Below.refl _ _⟩
      go_wp2_with fail
      refine H6.out.mono ?_
      rintro e w' ⟨⟨b, rfl⟩, rfl⟩
      cases b
      · go_wp2
        go_ret
        exact ⟨rfl, Below.refl _ _⟩
      · go_wp2
        go_ret
        exact ⟨rfl, Below.refl _ _⟩
  · have h6 := Lib.hid (txOut_big fin.length lW.length lC.length lI.length told.length aF aW aC aI aT cF cW cC cI cT w hsm)
    clear hW hC hI hsm hne
    unfold maxLen at hmF hmW hmC hmI hmT
    go_enter Try.func4, Try.ntmps4
    go_wp2_with fail
    refine H8.out.mono ?_
    rintro e w' ⟨⟨b, rfl⟩, rfl⟩
    cases b
    · go_wp2
      go_ret
      exact ⟨rfl, Below.refl _ _⟩
    go_wp2_with fail
    refine h6.out.mono ?_
    rintro e w' ⟨rfl, rfl⟩
    go_wp2
    go_ret
    exact ⟨rfl, Below.refl _ _⟩
end Go.Proofs.Qxb6615484a
