import Derived.Test.Qxb6615565aRows
import Derived.Test.Qxb6615565aWalks
import Derived.WalkKit
import Derived.ProofKit
import Derived.OpenShut
import Derived.ShutString
namespace Go.Proofs.Qxb6615565a.fnAllOfNameCharAtAnyCut
open Go.ChangeShapes Go.WideShapes Go.ChangeAt Go.RowKit
open Go.ChangeMaps (open_string shut_string)
open Pl
set_option linter.unusedVariables false

theorem own : ownKnob Try.prog.godebug = none := by kernel_rfl

theorem walk (a0 : ByteArray) (a1 : ByteArray) (w0 : a0.size ≤ maxLen) (w1 : a1.size ≤ maxLen) (w : World) :
    Calls Try.prog 3 #[.string a0, .string a1] w fun e w' => e = .returned (.bool true) ∧ Below w.heap.size w w' := by
  unfold maxLen at w0 w1
  by_cases h1 : 65536 < a0.size
  · go_enter Try.func3, Try.ntmps3
    go_wp2
    all_goals (go_ret; exact ⟨rfl, Below.refl _ _⟩)
  by_cases h2 : 65536 < a1.size
  · go_enter Try.func3, Try.ntmps3
    go_wp2
    all_goals (go_ret; exact ⟨rfl, Below.refl _ _⟩)
  have Hcat : Hid (allB nb (a0 ++ a1) = (allB nb a0 && allB nb a1)) := by
    show _ = _
    unfold allB
    simp [ByteArray.data_append]
  have Hdb : Hid (allB (db false) (a0 ++ a1) = allB nb (a0 ++ a1)) := by
    show _ = _
    unfold allB
    rw [show db false = nb from funext db_false]
  have hsz : (a0 ++ a1).size ≤ maxLen := by rw [ByteArray.size_append]; unfold maxLen; omega
  have hb7 : ∀ W, Calls Try.prog 7 #[.string a0, .string a1] W fun e w' => e = .returned (.bool true) ∧ w' = W := by
    intro W
    go_enter Try.func7, Try.ntmps7
    go_wp2
    all_goals (go_ret; exact ⟨rfl, rfl⟩)
  have H7 : Hid _ := hb7
  clear hb7
  cases hA : allB nb a0 <;> cases hB : allB nb a1
  all_goals
    have HA : Hid _ := hA
    have HB : Hid _ := hB
    rw [hA, hB] at Hcat
    clear hA hB
    go_enter Try.func3, Try.ntmps3
    go_wp2_with fail
    refine (H7.out _).mono ?_
    rintro e w1 ⟨rfl, rfl⟩
    go_wp2_with fail
    refine (zzName _ _).mono ?_
    rintro e w1 ⟨rfl, p1, rfl⟩
    rw [Hcat.out]
    go_wp2_with fail
    refine (zzName _ _).mono ?_
    rintro e w1 ⟨rfl, p2, rfl⟩
    rw [HA.out]
    go_wp2_with fail
    refine (zzName _ _).mono ?_
    rintro e w1 ⟨rfl, p3, rfl⟩
    rw [HB.out]
    go_wp2_with fail
    refine (allBytes_any _ _ hsz _).mono ?_
    rintro e w1 ⟨rfl, rfl⟩
    rw [Hdb.out, Hcat.out]
    go_wp2
    go_ret
    exact ⟨rfl, (((Below.refl _ _).alloc (Nat.le_refl _) _).alloc (by simp) _).alloc (by simp; omega) _⟩

set_option maxRecDepth 100000 in
theorem lifted (os : Os) (started : os.Started) (H : Type) (enc : TypeId × Value → H) :
    ReturnsInHanded {} Try.checked os 3 .any (Rows.fnAllOfNameCharAtAnyCutSpec.pre6 enc Try.prog Try.f3 Rows.fnAllOfNameCharAtAnyCutRow.domain false) (Rows.fnAllOfNameCharAtAnyCutSpec.post enc Try.prog Try.f3 false true false false) := by
  refine returnsInHanded_of_change (C := Try.checked) own started (by kernel_rfl) Try.func3
    (ChangeSpec.witness6 (enc := enc) (C := Try.checked) false ⟨#[], #[.string ByteArray.empty, .string ByteArray.empty], []⟩ 8 (by kernel_rfl) (by kernel_rfl) (by kernel_rfl) (by kernel_rfl)) ?_
  intro W base args ds gs before hval0 hW hcnd _
  have hval : ∀ (j : Nat) t v, Try.f3.params[j]? = some t → args[j]? = some v → Value.okWide Try.prog W .any base t v := hval0
  have hW' := hW
  obtain ⟨p, q, hA0, hV, rfl, hfz, hnd⟩ := hW
  have hA : DataW.TrodAll enc Try.prog W 0 (fun _ => true) true Try.f3.params.toList args.toList ds p := hA0
  rw [Try.params3] at hA hval
  obtain ⟨v0, vs0, d0, ds0, p0, q0, hargs, rfl, rfl, h0, r0⟩ := trodAll_cons hA
  obtain ⟨v1, vs1, d1, ds1, p1, q1, rfl, rfl, rfl, h1, r1⟩ := trodAll_cons r0
  obtain ⟨rfl, rfl, rfl⟩ := trodAll_nil r1
  obtain rfl : args = #[v0, v1] := by cases args; simp_all
  obtain ⟨rfl, rfl⟩ := trodVars_none hV
  obtain ⟨a0, rfl, rfl, rfl, w0⟩ := open_string Try.underlying9 (hval 0 9 v0 rfl rfl) h0
  obtain ⟨a1, rfl, rfl, rfl, w1⟩ := open_string Try.underlying9 (hval 1 9 v1 rfl rfl) h1
  clear hA0 hval0
  simp only [List.append_nil] at hW'
  refine (walk a0 a1 w0 w1 W).mono fun e W' ⟨he, hg⟩ => ?_
  subst he
  exact ⟨_, rfl, _, _, _, [], [], [], hW', (trodAll_cons_mk (shut_bool Try.underlying4 _) trodAll_mk0), (trodAll_cons_mk (shut_string Try.underlying9 w0) (trodAll_cons_mk (shut_string Try.underlying9 w1) trodAll_mk0)), rfl, hg.frame _, fun h => by cases h⟩

theorem over : Rows.fnAllOfNameCharAtAnyCutRow.holds Try.pinned (OpenSpec.ofChange Rows.fnAllOfNameCharAtAnyCutSpec) :=
  OpenClaim.holds_of_wide 3 Try.f3 rfl rfl rfl rfl rfl rfl rfl ⟨rfl, rfl, rfl, rfl, rfl⟩ rfl rfl rfl rfl rfl (by kernel_rfl) Try.func3 (by kernel_rfl)
    (of_decide_eq_true (by kernel_rfl)) (by unfold Func.isWrapper; first | (rw [if_pos (by decide +kernel)]; kernel_rfl) | (rw [if_neg (by decide +kernel)]; exact ⟨rfl, rfl⟩))
    (fun os started H enc _ => lifted os started H enc)

theorem proved : Rows.FnAllOfNameCharAtAnyCutSaid :=
  over
end Go.Proofs.Qxb6615565a.fnAllOfNameCharAtAnyCut
