import Derived.Test.Qxb6615484aTxFacts
namespace Go.Proofs.Qxb6615484a
open Go.RowKit Go.Maps

theorem three_new2 (w : World) (A : Obj) (T : Nat) (x y z : Value) : ∀ j u, [x, y, z][j]? = some u → ((w.alloc A).alloc (.cells #[x, y, z] T)).drew.drew.cell? ((⟨w.heap.size + 1, 0, none⟩ : Addr).add j) = some u := by
  have h := three_new (w.alloc A) T x y z
  rw [World.size_alloc] at h
  exact h

set_option maxHeartbeats 16000000 in
set_option maxRecDepth 100000 in
theorem newTx_any (st : Int) (u x p d : Bool) (fin told : List Bool) (subs : List Sub) (aR aH aF aW aC aI aT : Option Addr) (cR cH cF cW cC cI cT : Nat) (w : World)
    (hlB : fin.length ≤ 4096) (hlS : subs.length ≤ 4096) (hlT : told.length = subs.length) (hfit : ∀ s ∈ subs, Fits s)
    (hR : At w aR fin.length (fun _ => .string ByteArray.empty)) (hH : At w aH fin.length (fun _ => .bool false)) (hF : At w aF fin.length (fun j => .bool (fin.getD j false)))
    (hW : At w aW subs.length (fun j => .string (subs.getD j (ByteArray.empty, ByteArray.empty, ByteArray.empty)).1)) (hC : At w aC subs.length (fun j => .string (subs.getD j (ByteArray.empty, ByteArray.empty, ByteArray.empty)).2.1)) (hI : At w aI subs.length (fun j => .string (subs.getD j (ByteArray.empty, ByteArray.empty, ByteArray.empty)).2.2))
    (hT : At w aT subs.length (fun j => .bool (told.getD j false))) :
    Calls Try.prog 11 #[.int .i64 st, .int .i64 0, .bool u, .bool x, .bool p, .bool d, .slice aR fin.length cR, .slice aH fin.length cH, .slice aF fin.length cF, .slice aW subs.length cW, .slice aC subs.length cC, .slice aI subs.length cI, .slice aT subs.length cT] w
      fun e w' => ∃ (T M nM bB bS : Nat) (vB vS : Value), e = .returned (.pointer (some ⟨T, 0, none⟩)) ∧ TxW w' T M st vB vS ∧ w'.ownsRow bB 68 3 vB fin.length (brCs fin) ∧ w'.ownsRow bS 70 3 vS subs.length (rCs subs) ∧ Owns w' M nM (DTo subs told subs.length) ∧ Below w.heap.size w w' := by
  have HR := Lib.hid hR; have HH := Lib.hid hH; have HF := Lib.hid hF; have HW := Lib.hid hW; have HC := Lib.hid hC; have HI := Lib.hid hI; have HT := Lib.hid hT
  clear hR hH hF hW hC hI hT
  have hmm := @run_makeMap Try.prog
  go_enter Try.func11, Try.ntmps11
  go_upto_if 38 with (fail)
  go_cut [] (fun wx => P1 w wx st)
  case first =>
    cases x
    · go_wp2
      go_meet
      case rel => exact p1_start w st _ _ rfl rfl rfl rfl rfl rfl
    · go_wp2
      go_meet
      case rel => exact (p1_start w st _ _ rfl rfl rfl rfl rfl rfl).alloc _
  case rest =>
    have HP := Lib.hid hcut
    obtain ⟨htx, ⟨v12, h12⟩, _, _, hsz⟩ := hcut
    have h12a := alloc_cell h12
    have hza := alloc_frozen (blk_of_cell h12) (htx.2.2.2.2.2 12)
    clear htx h12
    go_upto_if 44 with (fail)
    go_cut [] (fun wx => P1 w wx st)
    case first =>
      cases d
      · go_wp2
        go_meet
        case rel => exact HP.out
      · go_wp2
        go_meet
        case rel => exact (HP.out.alloc _).set12 _
    case rest =>
      clear HP h12a hza hsz
      have HL0 : Hid (L1 w wc st 0 (.slice none 0 0) fin) := ⟨hcut.1, World.ownsRow_nil _ _ _ _, hcut.2.2.1, hcut.2.2.2.1, hcut.2.2.2.2⟩
      clear hcut
      go_wp2
      go_loopw [28, 53] (fun _ t wr => ∃ (k : Nat) (vB : Value), k ≤ fin.length ∧ t = .int .i64 k ∧ Hid (L1 w wr st k vB fin)) (fun _ t _ => fin.length - (RowKit.intOf t).toNat)
      case atStart => exact ⟨0, _, Nat.zero_le _, rfl, HL0⟩
      case round =>
        clear HL0
        obtain ⟨k, vB, hk, rfl, HL⟩ := hrel
        by_cases hlt : k < fin.length
        · obtain ⟨bR, oR, rfl, hbR, hcR⟩ := HR.out.resolve_left (by omega)
          obtain ⟨bH, oH, rfl, hbH, hcH⟩ := HH.out.resolve_left (by omega)
          obtain ⟨bF, oF, rfl, hbF, hcF⟩ := HF.out.resolve_left (by omega)
          obtain ⟨htx, hown, hom, hbel, hsz⟩ := HL.out
          have q1 : wr.cell? ⟨bR, oR + k, none⟩ = some (.string ByteArray.empty) := (hbel.cell (p := ⟨bR, oR + k, none⟩) hbR).trans (hcR k hlt)
          have q2 : wr.cell? ⟨bH, oH + k, none⟩ = some (.bool false) := (hbel.cell (p := ⟨bH, oH + k, none⟩) hbH).trans (hcH k hlt)
          have q3 : wr.cell? ⟨bF, oF + k, none⟩ = some (.bool (fin.getD k false)) := (hbel.cell (p := ⟨bF, oF + k, none⟩) hbF).trans (hcF k hlt)
          obtain ⟨f, Hf⟩ : ∃ f, Hid (fin.getD k false = f) := ⟨_, rfl⟩
          rw [Hf.out] at q3
          have q4 := htx.2.1
          have q4a := alloc_cell q4
          have q5 := htx.2.2.2.2.2 3
          have Hown := Lib.hid hown
          clear hcR hcH hcF htx hown hom hbel HR HH HF HW HC HI HT hmm
          obtain ⟨i0, hi, hz0, hz1, hz2⟩ := info_parts Try.info68
          go_upto_block 1 with fail
          go_cut [] (fun wx => ∃ v', L1 w wx st (k + 1) v' fin)
          case first =>
            go_wp2
            go_region_law ((refine step_append_lies _ (by rfl) (.tmp 60) (.tmp 74) 39 (by rfl) (w.heap.size + 2) 68 i0 _ 3 24 Try.underlying39 hi hz0 hz1 hz2 (by rfl) (by omega) vB k (brCs (fin.take k)) (by rfl) ((Hown.out.alloc _).drew) ⟨wr.heap.size, 0, none⟩ 1 1 [.string ByteArray.empty, .bool false, .bool f] (by rfl) (by rfl) (three_new _ _ _ _ _) (by intro u hu; simp at hu; rcases hu with rfl | rfl | rfl <;> rfl) (by omega) (by unfold maxLen; omega) (by omega) (by show _ ≤ (wr.alloc _).heap.size; simp; omega) _ rfl ?_; intro g cap w1 hown1 hgrow1 _ _; have hb1 := HL.out.block hgrow1; have hc1 := (World.cell?_of_block (a := ⟨w.heap.size + 1, 3, none⟩) hb1).trans q4; have hf1 := (World.frozen?_of_block (a := ⟨w.heap.size + 1, 3, none⟩) hb1).trans q5))
            all_goals go_wp2
            all_goals go_meet
            all_goals (case rel => exact ⟨_, HL.out.step hlt hgrow1 (by rw [Hf.out]; exact hown1)⟩)
          case rest =>
            obtain ⟨v', hL'⟩ := hcut
            have HL' := Lib.hid hL'
            clear hL'
            go_wp2
            go_roundw
            case rel => exact ⟨k + 1, v', by omega, by go_num, HL'⟩
            case measure => simp [RowKit.intOf]; omega
        · obtain rfl : k = fin.length := by omega
          obtain ⟨B2, HB2⟩ : ∃ B2, Hid (wr.heap.size = B2) := ⟨_, rfl⟩
          have HL2 : Hid (L2 w wr st B2 0 vB (.slice none 0 0) fin told subs) := by
            have h := L2.start (told := told) (subs := subs) HL.out
            rw [HB2.out] at h
            exact h
          clear HL HB2 HR HH HF hmm
          go_wp2
          go_loopw [29, 30, 81] (fun _ _ t wr => ∃ (k : Nat) (vS : Value), k ≤ subs.length ∧ t = .int .i64 k ∧ Hid (L2 w wr st B2 k vB vS fin told subs)) (fun _ _ t _ => subs.length - (RowKit.intOf t).toNat)
          case atStart => exact ⟨0, _, Nat.zero_le _, rfl, HL2⟩
          case round =>
            clear HL2
            obtain ⟨k, vS, hk, rfl, HL⟩ := hrel
            by_cases hlt2 : k < subs.length
            · obtain ⟨bW, oW, rfl, hbW, hcW⟩ := HW.out.resolve_left (by omega)
              obtain ⟨bC, oC, rfl, hbC, hcC⟩ := HC.out.resolve_left (by omega)
              obtain ⟨bI, oI, rfl, hbI, hcI⟩ := HI.out.resolve_left (by omega)
              obtain ⟨bT, oT, rfl, hbT, hcT⟩ := HT.out.resolve_left (by omega)
              have hbel := HL.out.2.2.2.2.1
              obtain ⟨s, Hs⟩ : ∃ s, Hid (subs.getD k noSub = s) := ⟨_, rfl⟩
              have hsf : Fits s := by
                rw [← Hs.out, List.getD_eq_getElem?_getD, List.getElem?_eq_getElem hlt2]
                exact hfit _ (List.getElem_mem hlt2)
              have q1 : wr.cell? ⟨bW, oW + k, none⟩ = some (.string s.1) := by rw [← Hs.out]; exact (hbel.cell (p := ⟨bW, oW + k, none⟩) hbW).trans (hcW k hlt2)
              have q2 : wr.cell? ⟨bC, oC + k, none⟩ = some (.string s.2.1) := by rw [← Hs.out]; exact (hbel.cell (p := ⟨bC, oC + k, none⟩) hbC).trans (hcC k hlt2)
              have q3 : wr.cell? ⟨bI, oI + k, none⟩ = some (.string s.2.2) := by rw [← Hs.out]; exact (hbel.cell (p := ⟨bI, oI + k, none⟩) hbI).trans (hcI k hlt2)
              have n1 := World.new_ne wr _ q1
              have n2 := World.new_ne wr _ q2
              have n3 := World.new_ne wr _ q3
              have k1 : (0 : Int) ≤ (k : Int) := by omega
              have k2 : (k : Int) < (subs.length : Int) := by omega
              have HcT := Lib.hid hcT
              clear hcW hcC hcI hcT hbel HW HC HI HT
              go_wp2
              go_region_held3 (fun w' => w'.cell? ⟨bW, oW + k, none⟩ = some (.string s.1) ∧ w'.cell? ⟨bC, oC + k, none⟩ = some (.string s.2.1) ∧ w'.cell? ⟨bI, oI + k, none⟩ = some (.string s.2.2)) (go_keep) (fail)
              have q4 := HL.out.1.2.2.1
              have q4a := alloc_cell q4
              have q4b := fun o => alloc_cell (q4a o)
              have q5 := HL.out.1.2.2.2.2.2 4
              have Hown := Lib.hid HL.out.2.2.1
              have hsz1 := HL.out.2.2.2.2.2.1
              have hsz2 := HL.out.2.2.2.2.2.2.1
              obtain ⟨i0, hi, hz0, hz1, hz2⟩ := info_parts Try.info70
              go_wp2
              go_cut [] (fun wx => ∃ v', L2m w wx st B2 k wr.heap.size vB v' fin told subs s)
              case first =>
                clear q1 q2 q3 n1 n2 n3 HcT hfit
                go_region_law ((refine step_append_lies _ (by rfl) (.tmp 101) (.tmp 103) 40 (by rfl) B2 70 i0 _ 3 48 Try.underlying40 hi hz0 hz1 hz2 (by rfl) (by omega) vS k (rCs (subs.take k)) (by rfl) (((Hown.out.alloc _).alloc _).drew.drew) ⟨wr.heap.size + 1, 0, none⟩ 1 1 [.string s.1, .string s.2.1, .string s.2.2] (by rfl) (by rfl) (three_new2 _ _ _ _ _ _) (by intro u hu; simp at hu; rcases hu with rfl | rfl | rfl <;> rfl) (by omega) (by unfold maxLen; omega) (by omega) (by show _ ≤ ((wr.alloc _).alloc _).heap.size; simp; omega) _ rfl ?_; intro g cap w1 hown1 hgrow1 _ _; have hb1 := HL.out.old hgrow1 (w.heap.size + 1) (by omega); have hc1 := (World.cell?_of_block (a := ⟨w.heap.size + 1, 4, none⟩) hb1).trans q4; have hf1 := (World.frozen?_of_block (a := ⟨w.heap.size + 1, 4, none⟩) hb1).trans q5))
                all_goals go_wp2
                all_goals go_meet
                all_goals (case rel => exact ⟨_, HL.out.step hlt2 Hs.out hgrow1 hown1⟩)
              case rest =>
                clear q1 q2 q3 n1 n2 n3 q4 q4a q4b q5 Hown hsz1 hsz2 HL hi hz0 hz1 hz2
                obtain ⟨v', hm⟩ := hcut
                have q1 : wc.cell? ⟨bT, oT + k, none⟩ = some (.bool (told.getD k false)) := (hm.2.2.2.2.1.cell (p := ⟨bT, oT + k, none⟩) hbT).trans (HcT.out k hlt2)
                have HM := Lib.hid hm
                cases htd : told.getD k false
                · rw [htd] at q1
                  have HN : Hid (L2 w wc st B2 (k + 1) vB v' fin told subs) := hm.no htd
                  clear htd hm HcT
                  go_wp2
                  go_roundw
                  case rel => exact ⟨k + 1, v', by omega, by go_num, HN⟩
                  case measure => simp [RowKit.intOf]; omega
                · rw [htd] at q1
                  obtain ⟨w', hrun, hown', hgrow'⟩ := World.ownsMap.update (World.ownsMap.drew hm.2.2.2.1) law Try.underlying37 (by unfold maxLen; omega) (key_ok s hsf) (plainElem_bool Try.underlying4 true)
                  have HN : Hid (L2 w w' st B2 (k + 1) vB v' fin told subs) := hm.yes htd Hs.out hown' hgrow'
                  have q5 := hm.1.2.2.2.1
                  obtain ⟨q6, q7, q8⟩ := hm.2.2.2.2.2.2.2.2
                  unfold subV at hrun
                  clear htd hm HcT hown' hgrow'
                  go_wp2
                  go_region
                  all_goals go_wp2
                  all_goals go_roundw
                  all_goals first
                    | (case rel => exact ⟨k + 1, v', by omega, by go_num, HN⟩)
                    | (case measure => simp [RowKit.intOf]; omega)
            · obtain rfl : k = subs.length := by omega
              clear HW HC HI HT
              go_wp2
              go_ret
              obtain ⟨h1, h2, h3, h4, h5, _⟩ := HL.out
              rw [List.take_of_length_le (Nat.le_refl _)] at h3
              exact ⟨w.heap.size + 1, w.heap.size, subs.length, w.heap.size + 2, B2, vB, vS, rfl, h1, h2, h3, h4, h5⟩
end Go.Proofs.Qxb6615484a
