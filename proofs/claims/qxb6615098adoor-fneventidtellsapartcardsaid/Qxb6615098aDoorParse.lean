import Derived.Test.Qxb6615098aDoorRows
import Derived.Test.Qxb6615098aDoorNums
namespace Go.Proofs.Qxb6615098aDoor
open Go.RowKit Go.Lib

/-- A byte of a string, by its place. -/
theorem idx_str (s : ByteArray) (z : Int) (i : Nat) (c : UInt8) (hz : z = (i : Int)) (h : s.data.toList[i]? = some c) (W : World) : (Instr.index 9 (.string s) (.int .i64 z)).run Tryd.prog W = .ok (.int .u8 (c.toNat : Int)) W := by
  subst hz
  obtain ⟨hi, e⟩ := List.getElem?_eq_some_iff.1 h
  have hi' : i < s.size := by simpa using hi
  rw [run_index_string W 9 s .i64 _ Tryd.underlying9, dif_pos ⟨by omega, by omega⟩]
  have e2 : ((i : Int)).toNat = i := by omega
  simp only [e2]
  rw [← e]
  rfl

theorem ret_pair {k : IntKind} {a b : Int} (h : a = b) : Ending.returned (.tuple #[.int k a, .bool true]) = .returned (.tuple #[.int k b, .bool true]) := by rw [h]
set_option maxHeartbeats 400000 in
theorem hexVal_any (d : Nat) (hd : d < 16) (w : World) :
    Calls Tryd.prog 10 #[.int .u8 ((Hx.digit d).toNat : Int)] w fun e w' => e = .returned (.tuple #[.int .u8 d, .bool true]) ∧ w' = w := by
  by_cases h : d < 10
  · rw [show ((Hx.digit d).toNat : Int) = 48 + (d : Int) by rw [digit_lo d h]; rfl]
    go_enter Tryd.func10, Tryd.ntmps10
    go_wp2
    go_ret2
    exact ⟨ret_pair (by omega), rfl⟩
  · rw [show ((Hx.digit d).toNat : Int) = 87 + (d : Int) by rw [digit_hi d (by omega) hd]; rfl]
    go_enter Tryd.func10, Tryd.ntmps10
    go_wp2
    go_ret2
    exact ⟨ret_pair (by omega), rfl⟩

/-- The id's bytes, a list. -/
def idL (T : List UInt8) (n : Nat) : List UInt8 := ([101, 118, 116, 95] ++ Hx.encode T ++ [95]) ++ Lib.decDigits n
theorem idL_hi (b0 b1 b2 b3 b4 b5 b6 b7 : UInt8) (n k : Nat) (h : k < 8) : (idL [b0, b1, b2, b3, b4, b5, b6, b7] n)[4 + 2 * k]? = some (Hx.digit ((tagAt b0 b1 b2 b3 b4 b5 b6 b7 k).toNat / 16)) := by
  match k, h with
  | 0, _ => rfl
  | 1, _ => rfl
  | 2, _ => rfl
  | 3, _ => rfl
  | 4, _ => rfl
  | 5, _ => rfl
  | 6, _ => rfl
  | 7, _ => rfl
theorem idL_lo (b0 b1 b2 b3 b4 b5 b6 b7 : UInt8) (n k : Nat) (h : k < 8) : (idL [b0, b1, b2, b3, b4, b5, b6, b7] n)[5 + 2 * k]? = some (Hx.digit ((tagAt b0 b1 b2 b3 b4 b5 b6 b7 k).toNat % 16)) := by
  match k, h with
  | 0, _ => rfl
  | 1, _ => rfl
  | 2, _ => rfl
  | 3, _ => rfl
  | 4, _ => rfl
  | 5, _ => rfl
  | 6, _ => rfl
  | 7, _ => rfl

theorem or_all : ∀ c : Fin 256, bits .or .u8 ((c.val : Int) / 16 * 16) ((c.val : Int) % 16) = (c.val : Int) := by decide +kernel
theorem or_back (c : UInt8) : bits .or .u8 ((c.toNat : Int) / 16 * 16) ((c.toNat : Int) % 16) = (c.toNat : Int) := or_all ⟨c.toNat, c.toNat_lt⟩

theorem head_byte (n : Nat) (h : 1 < (decB n).size) : ∃ c : UInt8, (decB n).data.toList[0]? = some c ∧ ((c.toNat : Int) == 48) = false := by
  obtain ⟨c, t, e, hc⟩ := dec_zero_len n h
  refine ⟨c, ?_, by simp; omega⟩
  show (Lib.decDigits n)[0]? = some c
  rw [e]
  rfl
/-- One more digit. -/
theorem digit_step (n : Nat) (hn : n < 18446744073709551616) (k : Nat) (h : k < (decB n).size) (a : Int) (Ha : Hid (a = (valTo n k : Int))) :
    ∃ z : Int, 48 ≤ z ∧ z ≤ 57 ∧ a * 10 + (z - 48) ≤ 18446744073709551615 ∧ (∀ W, (Instr.index 9 (.string (decB n)) (.int .i64 (k : Int))).run Tryd.prog W = .ok (.int .u8 z) W) ∧ Hid (a * 10 + (z - 48) = (valTo n (k + 1) : Int)) := by
  have hl : k < (Lib.decDigits n).length := h
  have hb := dec_digit n _ (List.getElem_mem hl)
  have hs := valTo_succ n k hl
  have hle := valTo_le n (k + 1)
  have ha := Ha.out
  refine ⟨((Lib.decDigits n)[k].toNat : Int), by omega, by omega, by omega, ?_, ?_⟩
  · exact fun W => idx_str (decB n) k k _ rfl (show (Lib.decDigits n)[k]? = some (Lib.decDigits n)[k] from List.getElem?_eq_getElem hl) W
  · show _ = _
    omega

set_option maxHeartbeats 1600000 in
theorem parse_any (b0 b1 b2 b3 b4 b5 b6 b7 : UInt8) (s : ByteArray) (n : Nat) (hn : n < 18446744073709551616) (hlo : 22 ≤ s.size) (hhi : s.size ≤ 41)
    (hL : s.data.toList = idL [b0, b1, b2, b3, b4, b5, b6, b7] n) (hD : s.extract 21 s.size = decB n) (w : World) :
    Calls Tryd.prog 8 #[tagV b0 b1 b2 b3 b4 b5 b6 b7, .string s] w fun e w' => e = .returned (.tuple #[.int .u64 n, .bool true]) ∧ Below w.heap.size w w' := by
  have HL := Lib.hid hL
  clear hL
  have i0 := fun W => idx_str s 0 0 101 rfl (by rw [HL.out]; rfl) W
  have i1 := fun W => idx_str s 1 1 118 rfl (by rw [HL.out]; rfl) W
  have i2 := fun W => idx_str s 2 2 116 rfl (by rw [HL.out]; rfl) W
  have i3 := fun W => idx_str s 3 3 95 rfl (by rw [HL.out]; rfl) W
  have i20 := fun W => idx_str s 20 20 95 rfl (by rw [HL.out]; rfl) W
  simp only [show ((101 : UInt8).toNat : Int) = 101 from rfl, show ((118 : UInt8).toNat : Int) = 118 from rfl, show ((116 : UInt8).toNat : Int) = 116 from rfl, show ((95 : UInt8).toNat : Int) = 95 from rfl] at i0 i1 i2 i3 i20
  go_enter Tryd.func8, Tryd.ntmps8
  go_wp2
  clear i0 i1 i2 i3 i20
  go_loop [6, 7, 8, 9, 10] (fun si _ _ _ _ => ∃ k : Nat, k ≤ 8 ∧ si = .int .i64 k) (fun si _ _ _ _ => 8 - (RowKit.intOf si).toNat)
  case atStart => exact ⟨0, Nat.zero_le _, rfl⟩
  case round =>
    obtain ⟨k, hk, rfl⟩ := hrel
    by_cases hlt : k < 8
    · have j1 := fun W => idx_str s (4 + 2 * (k : Int)) (4 + 2 * k) _ (by omega) (by rw [HL.out]; exact idL_hi b0 b1 b2 b3 b4 b5 b6 b7 n k hlt) W
      have j2 := fun W => idx_str s (5 + 2 * (k : Int)) (5 + 2 * k) _ (by omega) (by rw [HL.out]; exact idL_lo b0 b1 b2 b3 b4 b5 b6 b7 n k hlt) W
      have hel : ([Value.int .u8 b0.toNat, Value.int .u8 b1.toNat, Value.int .u8 b2.toNat, Value.int .u8 b3.toNat, Value.int .u8 b4.toNat, Value.int .u8 b5.toNat, Value.int .u8 b6.toNat, Value.int .u8 b7.toNat] : List Value)[k]'hlt = .int .u8 ((tagAt b0 b1 b2 b3 b4 b5 b6 b7 k).toNat : Int) := by
        have h := tagAt_at b0 b1 b2 b3 b4 b5 b6 b7 k hlt
        exact (List.getElem?_eq_some_iff.1 (show ([Value.int .u8 b0.toNat, Value.int .u8 b1.toNat, Value.int .u8 b2.toNat, Value.int .u8 b3.toNat, Value.int .u8 b4.toNat, Value.int .u8 b5.toNat, Value.int .u8 b6.toNat, Value.int .u8 b7.toNat] : List Value)[k]? = _ by rw [← h]; simp [tagC])).2
      generalize tagAt b0 b1 b2 b3 b4 b5 b6 b7 k = c at *
      have hc := c.toNat_lt
      have hor := or_back c
      go_wp2_with fail
      refine (hexVal_any (c.toNat / 16) (by omega) _).mono ?_
      rintro e w1 ⟨rfl, rfl⟩
      go_wp2_with fail
      refine (hexVal_any (c.toNat % 16) (by omega) _).mono ?_
      rintro e w1 ⟨rfl, rfl⟩
      go_wp2
      go_round
      case rel => exact ⟨k + 1, by omega, by go_num⟩
      case measure => simp [RowKit.intOf]; omega
    · clear HL
      have hds := decB_size n hn
      have hdp := decB_pos n
      by_cases h1 : 1 < (decB n).size
      · obtain ⟨c0, hc0, hne⟩ := head_byte n h1
        have i0 := fun W => idx_str (decB n) 0 0 c0 rfl hc0 W
        go_wp2
        clear i0 hne hc0
        clear hk hlt hlo hhi hD
        go_loop [12, 13, 14, 15] (fun v i _ _ => ∃ (k : Nat) (a : Int), k ≤ (decB n).size ∧ i = .int .i64 k ∧ v = .int .u64 a ∧ Hid (a = (valTo n k : Int)) ∧ 0 ≤ a ∧ a ≤ 18446744073709551615) (fun _ i _ _ => (decB n).size - (RowKit.intOf i).toNat)
        case atStart => exact ⟨0, 0, Nat.zero_le _, rfl, rfl, rfl, by omega, by omega⟩
        case round =>
          obtain ⟨k, a, hk, rfl, rfl, Ha, ha0, ha1⟩ := hrel
          by_cases hlt : k < (decB n).size
          · obtain ⟨z, hz0, hz1, hz2, iz, Hz⟩ := digit_step n hn k hlt a Ha
            go_wp2
            go_round
            case rel => exact ⟨k + 1, _, by omega, by go_num, rfl, Hz, by omega, hz2⟩
            case measure => simp [RowKit.intOf]; omega
          · have He : Hid (a = (n : Int)) := by
              show _ = _
              rw [Ha.out, valTo_end n k (by have := Nat.le_of_not_lt hlt; exact this)]
            go_wp2
            go_ret2
            exact ⟨ret_pair He.out, (Below.refl _ _).alloc (Nat.le_refl _) _⟩
      · go_wp2
        clear hk hlt hlo hhi hD
        go_loop [12, 13, 14, 15] (fun v i _ _ => ∃ (k : Nat) (a : Int), k ≤ (decB n).size ∧ i = .int .i64 k ∧ v = .int .u64 a ∧ Hid (a = (valTo n k : Int)) ∧ 0 ≤ a ∧ a ≤ 18446744073709551615) (fun _ i _ _ => (decB n).size - (RowKit.intOf i).toNat)
        case atStart => exact ⟨0, 0, Nat.zero_le _, rfl, rfl, rfl, by omega, by omega⟩
        case round =>
          obtain ⟨k, a, hk, rfl, rfl, Ha, ha0, ha1⟩ := hrel
          by_cases hlt : k < (decB n).size
          · obtain ⟨z, hz0, hz1, hz2, iz, Hz⟩ := digit_step n hn k hlt a Ha
            go_wp2
            go_round
            case rel => exact ⟨k + 1, _, by omega, by go_num, rfl, Hz, by omega, hz2⟩
            case measure => simp [RowKit.intOf]; omega
          · have He : Hid (a = (n : Int)) := by
              show _ = _
              rw [Ha.out, valTo_end n k (by have := Nat.le_of_not_lt hlt; exact this)]
            go_wp2
            go_ret2
            exact ⟨ret_pair He.out, (Below.refl _ _).alloc (Nat.le_refl _) _⟩
end Go.Proofs.Qxb6615098aDoor
