import Derived.Test.Qxb6615565aRows
import Derived.Test.Qxb6615565aPlain
import Derived.WalkKit
import Derived.ProofKit
import Derived.OpenShut
import Derived.ShutString
import Derived.WalkLawsBesides
namespace Go.Proofs.Qxb6615565a
open Go.RowKit Pl

theorem ret_bool {a b : Bool} (h : a = b) : Ending.returned (.bool a) = .returned (.bool b) := by rw [h]

theorem isLetter_any (r : Int) (w : World) : Calls Try.prog 32 #[.int .i32 r] w fun e w' => e = .returned (.bool (letterI r)) ∧ w' = w := by
  go_enter Try.func32, Try.ntmps32
  go_wp2
  all_goals (go_ret; refine ⟨ret_bool ?_, rfl⟩; unfold letterI; rw [Bool.eq_iff_iff]; simp; try omega)

theorem isDigit_any (r : Int) (w : World) : Calls Try.prog 33 #[.int .i32 r] w fun e w' => e = .returned (.bool (digI r)) ∧ w' = w := by
  go_enter Try.func33, Try.ntmps33
  go_wp2
  all_goals (go_ret; refine ⟨ret_bool ?_, rfl⟩; unfold digI; rw [Bool.eq_iff_iff]; simp; try omega)

theorem isNameChar_any (r : Int) (w : World) : Calls Try.prog 24 #[.int .i32 r] w fun e w' => e = .returned (.bool (nameI r)) ∧ w' = w := by
  have key : nameI r = (letterI r || digI r || r == 95 || r == 45) := by
    unfold nameI letterI digI; rw [Bool.eq_iff_iff]; simp; omega
  rw [key]
  clear key
  cases h1 : letterI r
  · cases h2 : digI r
    · have H1 : Hid (letterI r = false) := h1
      have H2 : Hid (digI r = false) := h2
      clear h1 h2
      go_enter Try.func24, Try.ntmps24
      go_wp2_with (first
        | (go_at_call 32; refine (isLetter_any _ _).mono ?_; rintro e w' ⟨rfl, rfl⟩; rw [H1.out])
        | (go_at_call 33; refine (isDigit_any _ _).mono ?_; rintro e w' ⟨rfl, rfl⟩; rw [H2.out]))
      all_goals (go_ret; refine ⟨ret_bool ?_, rfl⟩; simp; try omega)
    · have H1 : Hid (letterI r = false) := h1
      have H2 : Hid (digI r = true) := h2
      clear h1 h2
      go_enter Try.func24, Try.ntmps24
      go_wp2_with (first
        | (go_at_call 32; refine (isLetter_any _ _).mono ?_; rintro e w' ⟨rfl, rfl⟩; rw [H1.out])
        | (go_at_call 33; refine (isDigit_any _ _).mono ?_; rintro e w' ⟨rfl, rfl⟩; rw [H2.out]))
      all_goals (go_ret; refine ⟨ret_bool ?_, rfl⟩; simp)
  · have H1 : Hid (letterI r = true) := h1
    clear h1
    go_enter Try.func24, Try.ntmps24
    go_wp2_with (go_at_call 32; refine (isLetter_any _ _).mono ?_; rintro e w' ⟨rfl, rfl⟩; rw [H1.out])
    all_goals (go_ret; refine ⟨ret_bool ?_, rfl⟩; simp)

theorem isSegmentChar_any (r : Int) (w : World) : Calls Try.prog 26 #[.int .i32 r] w fun e w' => e = .returned (.bool (segI r)) ∧ w' = w := by
  have key : segI r = (nameI r || r == 46) := by
    rw [segI_eq]; rfl
  rw [key]
  clear key
  cases h1 : nameI r
  · have H1 : Hid (nameI r = false) := h1
    clear h1
    go_enter Try.func26, Try.ntmps26
    go_wp2_with (go_at_call 24; refine (isNameChar_any _ _).mono ?_; rintro e w' ⟨rfl, rfl⟩; rw [H1.out])
    all_goals (go_ret; refine ⟨ret_bool ?_, rfl⟩; simp)
  · have H1 : Hid (nameI r = true) := h1
    clear h1
    go_enter Try.func26, Try.ntmps26
    go_wp2_with (go_at_call 24; refine (isNameChar_any _ _).mono ?_; rintro e w' ⟨rfl, rfl⟩; rw [H1.out])
    all_goals (go_ret; refine ⟨ret_bool ?_, rfl⟩; simp)

theorem or_u8 : ∀ c : Fin 256, bits .or .u8 (c.val : Int) 32 = ((c.val ||| 32 : Nat) : Int) := by decide +kernel
theorem nameByte_key (c : UInt8) : (97 ≤ bits .or .u8 (c.toNat : Int) 32 ∧ bits .or .u8 (c.toNat : Int) 32 ≤ 122) ↔ ((97 ≤ (c.toNat : Int) ∧ (c.toNat : Int) ≤ 122) ∨ (65 ≤ (c.toNat : Int) ∧ (c.toNat : Int) ≤ 90)) := by
  have e := or_u8 ⟨c.toNat, c.toNat_lt⟩
  have h := or32' c
  simp only at e
  rw [e]
  omega

theorem nameByte_any (c : UInt8) (w : World) : Calls Try.prog 25 #[.int .u8 c.toNat] w fun e w' => e = .returned (.bool (nb c)) ∧ w' = w := by
  have H : Hid ((97 ≤ bits .or .u8 (c.toNat : Int) 32 ∧ bits .or .u8 (c.toNat : Int) 32 ≤ 122) ↔ ((97 ≤ (c.toNat : Int) ∧ (c.toNat : Int) ≤ 122) ∨ (65 ≤ (c.toNat : Int) ∧ (c.toNat : Int) ≤ 90))) := nameByte_key c
  have hlt := c.toNat_lt
  go_enter Try.func25, Try.ntmps25
  go_wp2
  all_goals (go_ret; refine ⟨ret_bool ?_, rfl⟩; have h := H.out; generalize bits .or .u8 (c.toNat : Int) 32 = z at *; unfold nb nameI; rw [Bool.eq_iff_iff]; simp; try omega)


set_option maxHeartbeats 400000 in
theorem allOf_name (s : ByteArray) (w : World) : Calls Try.prog 23 #[.string s, .func (.func 24) #[] #[]] w fun e w' => e = .returned (.bool (allB nb s)) ∧ ∃ pos, w' = w.iter s pos := by
  go_enter Try.func23, Try.ntmps23
  go_wp2
  go_loopw [6] (fun _ w' => ∃ pos : Nat, w' = w.iter s pos ∧ Hid ((s.data.toList.take pos).all nb = true)) (fun _ w' => s.size - w'.iterPos w.heap.size)
  case atStart => exact ⟨0, rfl, rfl⟩
  case round =>
    obtain ⟨pos, rfl, hall⟩ := hrel
    by_cases hp : pos < s.size
    · have hp' : pos < s.data.toList.length := by simpa using hp
      by_cases ha : (s[pos]'hp).toNat < 128
      · cases hc : nb s[pos]
        · have Hc : Hid (nameI (s[pos].toNat : Int) = false) := hc
          have Hno : Hid (allB nb s = false) := all_no nb _ pos hp' hc
          clear hc
          have hnx : ∀ ty, (Instr.next (.pointer (some ⟨w.heap.size, 0, none⟩)) true ty).run Try.prog (w.iter s pos) = _ := fun ty => run_next_ascii w s pos ty hp ha
          go_wp2_with (go_at_call 24; refine (isNameChar_any _ _).mono ?_; rintro e w' ⟨rfl, rfl⟩; rw [Hc.out])
          go_ret
          exact ⟨ret_bool Hno.out.symm, _, rfl⟩
        · have Hc : Hid (nameI (s[pos].toNat : Int) = true) := hc
          have Hyes : Hid ((s.data.toList.take (pos + 1)).all nb = true) := all_take_succ nb _ pos hp' hall.out hc
          clear hc
          have hnx : ∀ ty, (Instr.next (.pointer (some ⟨w.heap.size, 0, none⟩)) true ty).run Try.prog (w.iter s pos) = _ := fun ty => run_next_ascii w s pos ty hp ha
          go_wp2_with (go_at_call 24; refine (isNameChar_any _ _).mono ?_; rintro e w' ⟨rfl, rfl⟩; rw [Hc.out])
          go_roundw
          case rel => exact ⟨pos + 1, rfl, Hyes⟩
          case measure => simp; omega
      · have hd := decode_high s pos hp (by omega)
        have Hc : Hid (nameI ((Utf8.decode s pos).1 : Int) = false) := nameI_high (by omega)
        have Hno : Hid (allB nb s = false) := all_no nb _ pos hp' (nameI_high (by show (128 : Int) ≤ ((s[pos]'hp).toNat : Int); omega))
        clear hd
        have hnx : ∀ ty, (Instr.next (.pointer (some ⟨w.heap.size, 0, none⟩)) true ty).run Try.prog (w.iter s pos) = _ := fun ty => run_next_any w s pos ty hp
        go_wp2_with (go_at_call 24; refine (isNameChar_any _ _).mono ?_; rintro e w' ⟨rfl, rfl⟩; rw [Hc.out])
        go_ret
        exact ⟨ret_bool Hno.out.symm, _, rfl⟩
    · have Hyes : Hid (allB nb s = true) := all_whole nb _ pos (by simpa using Nat.le_of_not_lt hp) hall.out
      have hnx : ∀ ty, (Instr.next (.pointer (some ⟨w.heap.size, 0, none⟩)) true ty).run Try.prog (w.iter s pos) = _ := fun ty => run_next_end w s pos ty hp
      go_wp2
      go_ret
      exact ⟨ret_bool Hyes.out.symm, _, rfl⟩

set_option maxHeartbeats 400000 in
theorem allOf_seg (s : ByteArray) (w : World) : Calls Try.prog 23 #[.string s, .func (.func 26) #[] #[]] w fun e w' => e = .returned (.bool (allB sb s)) ∧ ∃ pos, w' = w.iter s pos := by
  go_enter Try.func23, Try.ntmps23
  go_wp2
  go_loopw [6] (fun _ w' => ∃ pos : Nat, w' = w.iter s pos ∧ Hid ((s.data.toList.take pos).all sb = true)) (fun _ w' => s.size - w'.iterPos w.heap.size)
  case atStart => exact ⟨0, rfl, rfl⟩
  case round =>
    obtain ⟨pos, rfl, hall⟩ := hrel
    by_cases hp : pos < s.size
    · have hp' : pos < s.data.toList.length := by simpa using hp
      by_cases ha : (s[pos]'hp).toNat < 128
      · cases hc : sb s[pos]
        · have Hc : Hid (segI (s[pos].toNat : Int) = false) := hc
          have Hno : Hid (allB sb s = false) := all_no sb _ pos hp' hc
          clear hc
          have hnx : ∀ ty, (Instr.next (.pointer (some ⟨w.heap.size, 0, none⟩)) true ty).run Try.prog (w.iter s pos) = _ := fun ty => run_next_ascii w s pos ty hp ha
          go_wp2_with (go_at_call 26; refine (isSegmentChar_any _ _).mono ?_; rintro e w' ⟨rfl, rfl⟩; rw [Hc.out])
          go_ret
          exact ⟨ret_bool Hno.out.symm, _, rfl⟩
        · have Hc : Hid (segI (s[pos].toNat : Int) = true) := hc
          have Hyes : Hid ((s.data.toList.take (pos + 1)).all sb = true) := all_take_succ sb _ pos hp' hall.out hc
          clear hc
          have hnx : ∀ ty, (Instr.next (.pointer (some ⟨w.heap.size, 0, none⟩)) true ty).run Try.prog (w.iter s pos) = _ := fun ty => run_next_ascii w s pos ty hp ha
          go_wp2_with (go_at_call 26; refine (isSegmentChar_any _ _).mono ?_; rintro e w' ⟨rfl, rfl⟩; rw [Hc.out])
          go_roundw
          case rel => exact ⟨pos + 1, rfl, Hyes⟩
          case measure => simp; omega
      · have hd := decode_high s pos hp (by omega)
        have Hc : Hid (segI ((Utf8.decode s pos).1 : Int) = false) := segI_high (by omega)
        have Hno : Hid (allB sb s = false) := all_no sb _ pos hp' (segI_high (by show (128 : Int) ≤ ((s[pos]'hp).toNat : Int); omega))
        clear hd
        have hnx : ∀ ty, (Instr.next (.pointer (some ⟨w.heap.size, 0, none⟩)) true ty).run Try.prog (w.iter s pos) = _ := fun ty => run_next_any w s pos ty hp
        go_wp2_with (go_at_call 26; refine (isSegmentChar_any _ _).mono ?_; rintro e w' ⟨rfl, rfl⟩; rw [Hc.out])
        go_ret
        exact ⟨ret_bool Hno.out.symm, _, rfl⟩
    · have Hyes : Hid (allB sb s = true) := all_whole sb _ pos (by simpa using Nat.le_of_not_lt hp) hall.out
      have hnx : ∀ ty, (Instr.next (.pointer (some ⟨w.heap.size, 0, none⟩)) true ty).run Try.prog (w.iter s pos) = _ := fun ty => run_next_end w s pos ty hp
      go_wp2
      go_ret
      exact ⟨ret_bool Hyes.out.symm, _, rfl⟩

theorem zzName (s : ByteArray) (w : World) : Calls Try.prog 8 #[.string s] w fun e w' => e = .returned (.bool (allB nb s)) ∧ ∃ pos, w' = w.iter s pos := by
  go_enter Try.func8, Try.ntmps8
  go_wp2_with (go_at_call 23; refine (allOf_name _ _).mono ?_; rintro e w' ⟨rfl, pos, rfl⟩)
  go_ret
  exact ⟨rfl, pos, rfl⟩
theorem zzSeg (s : ByteArray) (w : World) : Calls Try.prog 11 #[.string s] w fun e w' => e = .returned (.bool (allB sb s)) ∧ ∃ pos, w' = w.iter s pos := by
  go_enter Try.func11, Try.ntmps11
  go_wp2_with (go_at_call 23; refine (allOf_seg _ _).mono ?_; rintro e w' ⟨rfl, pos, rfl⟩)
  go_ret
  exact ⟨rfl, pos, rfl⟩

set_option maxHeartbeats 400000 in
theorem allBytes_any (s : ByteArray) (dot : Bool) (hs : s.size ≤ maxLen) (w : World) : Calls Try.prog 9 #[.string s, .bool dot] w fun e w' => e = .returned (.bool (allB (db dot) s)) ∧ w' = w := by
  unfold maxLen at hs
  go_enter Try.func9, Try.ntmps9
  go_wp2
  go_loop [5, 6] (fun i _ => ∃ k : Nat, k ≤ s.size ∧ i = .int .i64 k ∧ Hid ((s.data.toList.take k).all (db dot) = true)) (fun i _ => s.size - (intOf i).toNat)
  case atStart => exact ⟨0, Nat.zero_le _, rfl, rfl⟩
  case round =>
    obtain ⟨k, hk, rfl, hall⟩ := hrel
    by_cases hlt : k < s.size
    · have hp' : k < s.data.toList.length := by simpa using hlt
      have hbd := (s[k]).toNat_lt
      cases hn : nb s[k]
      · have Hn : Hid (nb s[k] = false) := hn
        cases dot
        · have Hno : Hid (allB (db false) s = false) := all_no (db false) _ k hp' (by rw [db_false]; exact hn)
          clear hn
          go_wp2_with (go_at_call 25; refine (nameByte_any _ _).mono ?_; rintro e w' ⟨rfl, rfl⟩; rw [Hn.out])
          go_ret
          exact ⟨ret_bool Hno.out.symm, rfl⟩
        · by_cases h46 : (s[k].toNat : Int) = 46
          · have Hyes : Hid ((s.data.toList.take (k + 1)).all (db true) = true) := all_take_succ (db true) _ k hp' hall.out (by unfold db; rw [Bool.or_eq_true]; exact Or.inr (by simp; exact_mod_cast h46))
            have h46' : ((s[k].toNat : Int) == 46) = true := by simpa using h46
            clear hn h46
            go_wp2_with (go_at_call 25; refine (nameByte_any _ _).mono ?_; rintro e w' ⟨rfl, rfl⟩; rw [Hn.out])
            go_round
            case rel => exact ⟨k + 1, by omega, by go_num, Hyes⟩
            case measure => simp [intOf]; omega
          · have Hno : Hid (allB (db true) s = false) := all_no (db true) _ k hp' (by unfold db; rw [show nb s.data.toList[k] = false from hn]; simp; exact_mod_cast h46)
            have h46' : ((s[k].toNat : Int) == 46) = false := by simpa using h46
            clear hn h46
            go_wp2_with (go_at_call 25; refine (nameByte_any _ _).mono ?_; rintro e w' ⟨rfl, rfl⟩; rw [Hn.out])
            go_ret
            exact ⟨ret_bool Hno.out.symm, rfl⟩
      · have Hn : Hid (nb s[k] = true) := hn
        have Hyes : Hid ((s.data.toList.take (k + 1)).all (db dot) = true) := all_take_succ (db dot) _ k hp' hall.out (by unfold db; rw [Bool.or_eq_true]; exact Or.inl hn)
        clear hn
        go_wp2_with (go_at_call 25; refine (nameByte_any _ _).mono ?_; rintro e w' ⟨rfl, rfl⟩; rw [Hn.out])
        go_round
        case rel => exact ⟨k + 1, by omega, by go_num, Hyes⟩
        case measure => simp [intOf]; omega
    · have Hyes : Hid (allB (db dot) s = true) := all_whole (db dot) _ k (by simpa using Nat.le_of_not_lt hlt) hall.out
      go_wp2
      go_ret
      exact ⟨ret_bool Hyes.out.symm, rfl⟩
end Go.Proofs.Qxb6615565a
