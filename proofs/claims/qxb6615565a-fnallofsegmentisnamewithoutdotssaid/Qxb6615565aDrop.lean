import Derived.Test.Qxb6615565aRows
import Derived.Test.Qxb6615565aWalks
namespace Go.Proofs.Qxb6615565a
open Go.RowKit Pl

theorem Try.info5 : (Try.prog.info? 5).map (fun i => (i.zero, i.size, i.bytes)) = some (some (.int .u8 0), 1, 1) := by kernel_rfl

/-- The bytes as cells. -/
def bcells (l : List UInt8) : List Value := l.map fun b => Value.int .u8 (b.toNat : Int)
theorem bcells_snoc (l : List UInt8) (c : UInt8) : bcells (l ++ [c]) = bcells l ++ [Value.int .u8 (c.toNat : Int)] := by unfold bcells; simp
def kept (s : ByteArray) (k : Nat) : List UInt8 := (s.data.toList.take k).filter nd
def dropB (s : ByteArray) : ByteArray := ⟨(s.data.toList.filter nd).toArray⟩
theorem kept_le (s : ByteArray) (k : Nat) : (kept s k).length ≤ k := by
  unfold kept
  exact Nat.le_trans (List.length_filter_le _ _) (List.length_take_le _ _)
theorem kept_yes (s : ByteArray) (k : Nat) (h : k < s.size) (hd : ¬ (s[k].toNat : Int) = 46) : kept s (k + 1) = kept s k ++ [s[k]] := by
  unfold kept
  rw [List.take_succ_eq_append_getElem (by simpa using h), List.filter_append]
  have e0 : s.data.toList[k]'(by simpa using h) = s[k] := rfl
  have e : nd s[k] = true := by unfold nd; simp; exact_mod_cast hd
  rw [e0, List.filter_cons, if_pos e]
  rfl
theorem kept_no (s : ByteArray) (k : Nat) (h : k < s.size) (hd : (s[k].toNat : Int) = 46) : kept s (k + 1) = kept s k := by
  unfold kept
  rw [List.take_succ_eq_append_getElem (by simpa using h), List.filter_append]
  have e0 : s.data.toList[k]'(by simpa using h) = s[k] := rfl
  have e : nd s[k] = false := by unfold nd; simp; exact_mod_cast hd
  rw [e0, List.filter_cons, if_neg (by simp [e])]
  simp
theorem kept_end (s : ByteArray) (k : Nat) (h : ¬ k < s.size) : kept s k = s.data.toList.filter nd := by
  unfold kept
  rw [List.take_of_length_le (by simpa using Nat.le_of_not_lt h)]

set_option maxHeartbeats 800000 in
theorem dropDots_any (s : ByteArray) (hs : s.size ≤ 65536) (w : World) : Calls Try.prog 12 #[.string s] w fun e w' => e = .returned (.string (dropB s)) ∧ Below w.heap.size w w' := by
  obtain ⟨i0, hi, hz0, hz1, hz2⟩ := info_parts Try.info5
  go_enter Try.func12, Try.ntmps12
  go_wp2_with (at_make; refine wpList_make_own _ rfl _ _ 41 rfl w.heap.size 5 i0 (.int .u8 0) 1 Try.underlying41 hi hz0 hz1 _ _ _ s.size rfl rfl (by omega) ?b2 ?b3 (Nat.le_refl _) ?_)
  case b2 => rw [hz2]; omega
  case b3 => unfold maxLen; omega
  intro w0 hown0 hgrow0
  go_wp2
  go_loopw [3, 4] (fun out si wr => ∃ (k : Nat), k ≤ s.size ∧ si = .int .i64 k ∧ out = .slice (some ⟨w.heap.size, 0, none⟩) (kept s k).length s.size ∧
      wr.ownsRow w.heap.size 5 1 (.slice (some ⟨w.heap.size, 0, none⟩) (kept s k).length s.size) (kept s k).length (bcells (kept s k)) ∧ Below w.heap.size w wr)
    (fun _ si _ => s.size - (intOf si).toNat)
  case atStart => exact ⟨0, Nat.zero_le _, rfl, rfl, hown0, (Below.refl _ _).grown hgrow0 (Nat.le_refl _) (fun k h => by cases h)⟩
  case round =>
    obtain ⟨k, hk, rfl, rfl, hown, hnx⟩ := hrel
    have hkl := kept_le s k
    have hsz := hnx.size
    by_cases hlt : k < s.size
    · by_cases h46 : (s[k].toNat : Int) = 46
      · have h46' : ((s[k].toNat : Int) != 46) = false := by simpa using h46
        have E : Hid (kept s (k + 1) = kept s k) := kept_no s k hlt h46
        clear h46
        go_wp2
        go_roundw
        case rel => exact ⟨k + 1, by omega, by go_num, by rw [E.out], by rw [E.out]; exact hown, hnx⟩
        case measure => simp [intOf]; omega
      · have h46' : ((s[k].toNat : Int) != 46) = true := by simpa using h46
        have E : Hid (kept s (k + 1) = kept s k ++ [s[k]]) := kept_yes s k hlt h46
        clear h46
        go_wp2_with (at_builtin; refine wpList_append_fits _ rfl (.tmp 18) (.tmp 22) 41 rfl w.heap.size 5 i0 1 Try.underlying41 hi hz1 w.heap.size (kept s k).length s.size _ rfl (hown.alloc _) ⟨wr.heap.size, 0, none⟩ 1 1 [.int .u8 (s[k].toNat : Int)] rfl rfl (by intro t u ht; match t, ht with | 0, ht => simp at ht; subst ht; simp [Addr.add]) (by intro u hu; simp at hu; subst hu; rfl) (by omega) ?_; intro w1 hown1 hgrow1)
        go_roundw
        case rel => exact ⟨k + 1, by omega, by go_num, by rw [E.out]; simp, by rw [E.out, bcells_snoc, List.length_append]; exact hown1, (hnx.alloc hnx.size _).grown hgrow1 (by simp; omega) (fun k hk => by cases hk; exact Nat.le_refl _)⟩
        case measure => simp [intOf]; omega
    · have E : Hid (kept s k = s.data.toList.filter nd) := kept_end s k hlt
      have hcv : (convert 41 9 (.slice (some ⟨w.heap.size, 0, none⟩) (kept s k).length s.size)).run Try.prog wr = .ok (.string ⟨(kept s k).toArray⟩) wr :=
        run_convert_bytes_back (P := Try.prog) wr 41 9 5 ⟨w.heap.size, 0, none⟩ s.size (kept s k) Try.underlying41 Try.underlying5 Try.underlying9 (fun j hj => by
          have h := hown.cellAt j (by simpa using hj)
          show wr.cell? ((⟨w.heap.size, 0, none⟩ : Addr).add j) = _
          rw [show (⟨w.heap.size, 0, none⟩ : Addr).add j = ⟨w.heap.size, j, none⟩ by simp [Addr.add]; omega, h]
          unfold bcells
          simp [hj])
      go_wp2
      go_ret
      refine ⟨?_, hnx⟩
      show Ending.returned (.string ⟨(kept s k).toArray⟩) = _
      rw [E.out]
      rfl
end Go.Proofs.Qxb6615565a
