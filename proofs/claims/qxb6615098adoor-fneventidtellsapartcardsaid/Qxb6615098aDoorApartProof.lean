import Derived.Test.Qxb6615098aDoorRows
import Derived.Test.Qxb6615098aDoorTie
import Derived.Test.Qxb6615098aDoorCards
import Derived.Test.Qxb6615098aDoorApart
import Derived.Test.Qxb6615098aDoorLaid
import Derived.SevenTiedAt
namespace Go.Proofs.Qxb6615098aDoor.fnEventIDTellsApart
open Go.ChangeShapes Go.WideShapes Go.ChangeAt Go.RowKit

set_option maxRecDepth 100000 in
theorem lifted (os : Os) (started : os.Started) (H : Type) (enc : TypeId × Value → H) :
    ReturnsInHanded {} Tryd.checked os 4 .any (fun w args => (Rows.fnEventIDTellsApartSpec.pre enc Tryd.prog Tryd.f4 [] false w args ∧ laidMetH Tryd.prog laid3 w) ∧ sizedMet enc Tryd.prog Tryd.f4 (OpenSpec.ofChange Rows.fnEventIDTellsApartSpec) false w args)
      (Rows.fnEventIDTellsApartSpec.post enc Tryd.prog Tryd.f4 false true false false) := by
  refine returnsInHanded_of_change_and (C := Tryd.checked) (X := fun w _ => laidMetH Tryd.prog laid3 w) (fun _ _ _ hh h => h.of_heap hh) own started (by kernel_rfl) Tryd.func4
    (ChangeSpec.witness_shaped (enc := enc) (C := Tryd.checked) (os := os) (X := fun w _ => laidMetH Tryd.prog laid3 w) false (World.doorLaid Tryd.prog 24 os) #[tagV 0 0 0 0 0 0 0 0, .int .u64 0, tagV 0 0 0 0 0 0 0 0, .int .u64 0] 8 rfl (World.shaped_of_RefB (by kernel_rfl) (by kernel_rfl)) (by kernel_rfl) (by kernel_rfl) (by kernel_rfl) (door_met os _)) ?_
  intro W base args ds gs before hval0 hW _ _ hL _
  have hval : ∀ (j : Nat) t v, Tryd.f4.params[j]? = some t → args[j]? = some v → Value.okWide Tryd.prog W .any base t v := hval0
  have hW' := hW
  obtain ⟨p, q, hA0, hV, rfl, hfz, hnd⟩ := hW
  have hA : DataW.TrodAll enc Tryd.prog W 0 (fun _ => true) true Tryd.f4.params.toList args.toList ds p := hA0
  rw [Tryd.params4] at hA hval
  obtain ⟨v0, v1, v2, v3, d0, d1, d2, d3, p0, p1, p2, p3, rfl, rfl, rfl, h0, h1, h2, h3⟩ := trodAll_four hA
  obtain ⟨rfl, rfl⟩ := trodVars_none hV
  obtain ⟨b0, b1, b2, b3, b4, b5, b6, b7, rfl, rfl, rfl⟩ := open_tag (hval 0 22 v0 rfl rfl) h0
  obtain ⟨m0, rfl, rfl, rfl, wm⟩ := open_int Tryd.underlying23 (hval 1 23 v1 rfl rfl) h1
  obtain ⟨c0, c1, c2, c3, c4, c5, c6, c7, rfl, rfl, rfl⟩ := open_tag (hval 2 22 v2 rfl rfl) h2
  obtain ⟨n0, rfl, rfl, rfl, wn⟩ := open_int Tryd.underlying23 (hval 3 23 v3 rfl rfl) h3
  have hbm := bounds_u64 wm
  have hbn := bounds_u64 wn
  obtain ⟨m, rfl⟩ : ∃ m : Nat, m0 = (m : Int) := ⟨m0.toNat, by omega⟩
  obtain ⟨n, rfl⟩ : ∃ n : Nat, n0 = (n : Int) := ⟨n0.toNat, by omega⟩
  clear hA0 hval0
  simp only [List.append_nil] at hW'
  refine (apart_walk b0 b1 b2 b3 b4 b5 b6 b7 c0 c1 c2 c3 c4 c5 c6 c7 m n (by omega) (by omega) W (tab_of_laid hL)).mono fun e W' ⟨he, hg⟩ => ?_
  subst he
  exact ⟨_, rfl, _, _, _, [], [], [], hW', trodAll_mk1 (shut_bool Tryd.underlying4 _), trodAll_mk4 (shut_tag b0 b1 b2 b3 b4 b5 b6 b7) (shut_int Tryd.underlying23 wm) (shut_tag c0 c1 c2 c3 c4 c5 c6 c7) (shut_int Tryd.underlying23 wn), rfl, hg.frame _, fun h => by cases h⟩

theorem row_holds : Rows.FnEventIDTellsApartSaid :=
  OpenClaim.holds_of_wide 4 Tryd.f4 rfl rfl rfl rfl rfl rfl rfl ⟨rfl, rfl, rfl, rfl, rfl⟩ rfl rfl rfl rfl rfl (by kernel_rfl) Tryd.func4 (by kernel_rfl)
    (of_decide_eq_true (by kernel_rfl)) (by unfold Func.isWrapper; first | (rw [if_pos (by decide +kernel)]; kernel_rfl) | (rw [if_neg (by decide +kernel)]; exact ⟨rfl, rfl⟩))
    (fun os started H enc _ => lifted os started H enc)

theorem proved : Rows.FnEventIDTellsApartCardSaid :=
  Claim7.holds_tied_plain_at .later [] [.data, .data, .data] true Rows.fnEventIDTellsApartCard.stood.harness false
    row_holds (fun _ h => by cases h) (by kernel_rfl) (fun _ h => by cases h) fnEventIDTellsApart_row_tie rfl ⟨rfl, rfl⟩ (by kernel_rfl) rfl
    (fun f fn hf hfn => by
      obtain rfl : f = 4 := Option.some.inj ((show Tryd.prog.funcNamed Rows.fnEventIDTellsApartRow.func = some 4 by kernel_rfl).symm.trans hf) |>.symm
      obtain rfl : fn = Tryd.f4 := (Option.some.inj (Tryd.func4.symm.trans hfn)).symm
      exact ⟨by kernel_rfl, fun j t ht => by
        rw [Tryd.params4] at ht
        have hm : t ∈ [22, 23, 22, 23] := by simpa using Array.mem_of_getElem? ht
        have hall : ([22, 23, 22, 23].all fun u => !Tryd.prog.wantsStandIn u) = true := by kernel_rfl
        exact (show Tryd.prog.wantsStandIn t = false by simpa using List.all_eq_true.1 hall t hm)⟩)
    (by kernel_rfl)
end Go.Proofs.Qxb6615098aDoor.fnEventIDTellsApart
