import Derived.Test.Qxb6615565aRows
import Derived.Test.Qxb6615565aDrop
import Derived.WalkKit
import Derived.ProofKit
import Derived.OpenShut
import Derived.ShutString
namespace Go.Proofs.Qxb6615565a.fnAllOfSegmentIsNameWithoutDots
open Go.ChangeShapes Go.WideShapes Go.ChangeAt Go.RowKit
open Go.ChangeMaps (open_string shut_string)
open Pl
set_option linter.unusedVariables false

theorem own : ownKnob Try.prog.godebug = none := by kernel_rfl

theorem walk (a0 : ByteArray) (w0 : a0.size ≤ maxLen) (w : World) :
    Calls Try.prog 4 #[.string a0] w fun e w' => e = .returned (.bool true) ∧ Below w.heap.size w w' := by
  unfold maxLen at w0
  by_cases h1 : 65536 < a0.size
  · go_enter Try.func4, Try.ntmps4
    go_wp2
    all_goals (go_ret; exact ⟨rfl, Below.refl _ _⟩)
  have Hseg : Hid (allB nb (dropB a0) = allB sb a0) := (seg_drop a0.data.toList).symm
  have Hdb : Hid (allB (db true) a0 = allB sb a0) := by
    show _ = _
    unfold allB
    rw [show db true = sb from funext db_true]
  have hb7 : ∀ W, Calls Try.prog 10 #[.string a0] W fun e w' => e = .returned (.bool true) ∧ w' = W := by
    intro W
    go_enter Try.func10, Try.ntmps10
    go_wp2
    all_goals (go_ret; exact ⟨rfl, rfl⟩)
  have H7 : Hid _ := hb7
  clear hb7
  cases hA : allB sb a0
  all_goals
    have HA : Hid _ := hA
    clear hA
    go_enter Try.func4, Try.ntmps4
    go_wp2_with fail
    refine (H7.out _).mono ?_
    rintro e w1 ⟨rfl, rfl⟩
    go_wp2_with fail
    refine (zzSeg _ _).mono ?_
    rintro e w2 ⟨rfl, p1, rfl⟩
    rw [HA.out]
    go_wp2_with fail
    refine (dropDots_any a0 (by omega) _).mono ?_
    rintro e w3 ⟨rfl, hb3⟩
    go_wp2_with fail
    refine (zzName _ _).mono ?_
    rintro e w4 ⟨rfl, p3, rfl⟩
    rw [Hseg.out, HA.out]
    go_wp2_with fail
    refine (allBytes_any _ _ (by unfold maxLen; omega) _).mono ?_
    rintro e w5 ⟨rfl, rfl⟩
    rw [Hdb.out, HA.out]
    go_wp2
    go_ret
    have hs3 := hb3.size
    exact ⟨rfl, (((Below.refl _ _).alloc (Nat.le_refl _) _).trans (hb3.mono (by simp [World.iter]))).alloc (by simp [World.iter] at hs3; omega) _⟩

set_option maxRecDepth 100000 in
theorem lifted (os : Os) (started : os.Started) (H : Type) (enc : TypeId × Value → H) :
    ReturnsInHanded {} Try.checked os 4 .any (Rows.fnAllOfSegmentIsNameWithoutDotsSpec.pre6 enc Try.prog Try.f4 Rows.fnAllOfSegmentIsNameWithoutDotsRow.domain false) (Rows.fnAllOfSegmentIsNameWithoutDotsSpec.post enc Try.prog Try.f4 false true false false) := by
  refine returnsInHanded_of_change (C := Try.checked) own started (by kernel_rfl) Try.func4
    (ChangeSpec.witness6 (enc := enc) (C := Try.checked) false ⟨#[], #[.string ByteArray.empty], []⟩ 8 (by kernel_rfl) (by kernel_rfl) (by kernel_rfl) (by kernel_rfl)) ?_
  intro W base args ds gs before hval0 hW hcnd _
  have hval : ∀ (j : Nat) t v, Try.f4.params[j]? = some t → args[j]? = some v → Value.okWide Try.prog W .any base t v := hval0
  have hW' := hW
  obtain ⟨p, q, hA0, hV, rfl, hfz, hnd⟩ := hW
  have hA : DataW.TrodAll enc Try.prog W 0 (fun _ => true) true Try.f4.params.toList args.toList ds p := hA0
  rw [Try.params4] at hA hval
  obtain ⟨v0, vs0, d0, ds0, p0, q0, hargs, rfl, rfl, h0, r0⟩ := trodAll_cons hA
  obtain ⟨rfl, rfl, rfl⟩ := trodAll_nil r0
  obtain rfl : args = #[v0] := by cases args; simp_all
  obtain ⟨rfl, rfl⟩ := trodVars_none hV
  obtain ⟨a0, rfl, rfl, rfl, w0⟩ := open_string Try.underlying9 (hval 0 9 v0 rfl rfl) h0
  clear hA0 hval0
  simp only [List.append_nil] at hW'
  refine (walk a0 w0 W).mono fun e W' ⟨he, hg⟩ => ?_
  subst he
  exact ⟨_, rfl, _, _, _, [], [], [], hW', (trodAll_cons_mk (shut_bool Try.underlying4 _) trodAll_mk0), (trodAll_cons_mk (shut_string Try.underlying9 w0) trodAll_mk0), rfl, hg.frame _, fun h => by cases h⟩

theorem over : Rows.fnAllOfSegmentIsNameWithoutDotsRow.holds Try.pinned (OpenSpec.ofChange Rows.fnAllOfSegmentIsNameWithoutDotsSpec) :=
  OpenClaim.holds_of_wide 4 Try.f4 rfl rfl rfl rfl rfl rfl rfl ⟨rfl, rfl, rfl, rfl, rfl⟩ rfl rfl rfl rfl rfl (by kernel_rfl) Try.func4 (by kernel_rfl)
    (of_decide_eq_true (by kernel_rfl)) (by unfold Func.isWrapper; first | (rw [if_pos (by decide +kernel)]; kernel_rfl) | (rw [if_neg (by decide +kernel)]; exact ⟨rfl, rfl⟩))
    (fun os started H enc _ => lifted os started H enc)

theorem proved : Rows.FnAllOfSegmentIsNameWithoutDotsSaid :=
  over
end Go.Proofs.Qxb6615565a.fnAllOfSegmentIsNameWithoutDots
