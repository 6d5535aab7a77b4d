import Derived.Test.Qxb6615098aDoorRows
import Derived.Test.Qxb6615098aDoorFormat
import Derived.OpenShut
import Derived.WalkLawsBesides
namespace Go.Proofs.Qxb6615098aDoor
open Go.RowKit Go.Lib

/-- The tag as the call hands it over. -/
abbrev tagV (b0 b1 b2 b3 b4 b5 b6 b7 : UInt8) : Value := .agg #[.int .u8 b0.toNat, .int .u8 b1.toNat, .int .u8 b2.toNat, .int .u8 b3.toNat, .int .u8 b4.toNat, .int .u8 b5.toNat, .int .u8 b6.toNat, .int .u8 b7.toNat]
/-- The id's bytes. -/
def idB (T : List UInt8) (n : Nat) : ByteArray := ⟨(([101, 118, 116, 95] ++ Hx.encode T ++ [95]) ++ Lib.decDigits n).toArray⟩
def headB (T : List UInt8) : ByteArray := ⟨([101, 118, 116, 95] ++ Hx.encode T ++ [95]).toArray⟩

theorem ret_str {a b : ByteArray} (h : a = b) : Ending.returned (.string a) = .returned (.string b) := by rw [h]

/-- The pieces, closed to the walk. -/
def hexB (T : List UInt8) : ByteArray := ⟨(Hx.encode T).toArray⟩
def decB (n : Nat) : ByteArray := ⟨(Lib.decDigits n).toArray⟩
theorem hexB_size (T : List UInt8) : (hexB T).size = 2 * T.length := by
  show (Hx.encode T).toArray.size = _
  rw [List.size_toArray, Hx.encode_length]
theorem decB_size (n : Nat) (h : n < 18446744073709551616) : (decB n).size ≤ 20 := by
  show (Lib.decDigits n).toArray.size ≤ 20
  rw [List.size_toArray, Lib.decDigits_length]
  by_cases h1 : 1 ≤ n
  · have := Lib.numDigits_eq n h1 h; split at this <;> omega
  · rw [Lib.nDigits_small (by omega)]; omega

/-- The tag's cells, laid in a new block. -/
def tagC (b0 b1 b2 b3 b4 b5 b6 b7 : UInt8) : Array Value := #[.int .u8 b0.toNat, .int .u8 b1.toNat, .int .u8 b2.toNat, .int .u8 b3.toNat, .int .u8 b4.toNat, .int .u8 b5.toNat, .int .u8 b6.toNat, .int .u8 b7.toNat]
theorem tagC_at (b0 b1 b2 b3 b4 b5 b6 b7 : UInt8) (i : Nat) (h : i < [b0, b1, b2, b3, b4, b5, b6, b7].length) : (tagC b0 b1 b2 b3 b4 b5 b6 b7)[i]? = some (.int .u8 (([b0, b1, b2, b3, b4, b5, b6, b7][i]'h).toNat : Int)) := by
  have h8 : i < 8 := h
  match i, h8 with
  | 0, _ => rfl
  | 1, _ => rfl
  | 2, _ => rfl
  | 3, _ => rfl
  | 4, _ => rfl
  | 5, _ => rfl
  | 6, _ => rfl
  | 7, _ => rfl

set_option maxHeartbeats 800000 in
theorem eventID_any (b0 b1 b2 b3 b4 b5 b6 b7 : UInt8) (n : Nat) (hn : n < 18446744073709551616) (w : World) (htab : Tab w) :
    Calls Tryd.prog 9 #[tagV b0 b1 b2 b3 b4 b5 b6 b7, .int .u64 n] w fun e w' => e = .returned (.string (idB [b0, b1, b2, b3, b4, b5, b6, b7] n)) ∧ Below w.heap.size w w' := by
  have hhex := Tryd.hex_EncodeToString_bytes w.heap.size 0 8 [b0, b1, b2, b3, b4, b5, b6, b7] (w.alloc (.cells (tagC b0 b1 b2 b3 b4 b5 b6 b7) 22))
    (fun i h => by rw [World.cell?_alloc_new, Nat.zero_add]; exact tagC_at b0 b1 b2 b3 b4 b5 b6 b7 i h) (by simp) (by simp)
  have Hhex := Lib.hid (show Calls Tryd.prog 11 #[.slice (some ⟨w.heap.size, 0, none⟩) 8 8] (w.alloc (.cells (tagC b0 b1 b2 b3 b4 b5 b6 b7) 22)) fun e w' => e = .returned (.string (hexB [b0, b1, b2, b3, b4, b5, b6, b7])) ∧ Below (w.alloc (.cells (tagC b0 b1 b2 b3 b4 b5 b6 b7) 22)).heap.size (w.alloc (.cells (tagC b0 b1 b2 b3 b4 b5 b6 b7) 22)) w' from hhex)
  clear hhex
  have hs1 : (hexB [b0, b1, b2, b3, b4, b5, b6, b7]).size ≤ 16 := Nat.le_of_eq (hexB_size _)
  have hs2 := decB_size n hn
  have Heq : Hid (⟨#[101, 118, 116, 95]⟩ ++ hexB [b0, b1, b2, b3, b4, b5, b6, b7] ++ ⟨#[95]⟩ ++ decB n = idB [b0, b1, b2, b3, b4, b5, b6, b7] n) := by
    show _ = _
    apply ByteArray.ext
    simp only [ByteArray.data_append]
    unfold hexB decB idB
    simp
  go_enter Tryd.func9, Tryd.ntmps9
  go_wp2_with fail
  refine Hhex.out.mono ?_
  rintro e w1 ⟨rfl, hb1⟩
  have hba : Below w.heap.size w w1 := ((Below.refl _ _).alloc (Nat.le_refl _) _).trans (hb1.mono (by simp))
  have ht1 : Tab w1 := tab_on htab hba
  clear Hhex
  go_wp2_with fail
  refine (formatUint_10 n hn w1 ht1).mono ?_
  rintro e w2 ⟨rfl, hb2⟩
  rw [show (⟨(Lib.decDigits n).toArray⟩ : ByteArray) = decB n from rfl]
  go_wp2
  go_ret
  exact ⟨ret_str Heq.out, hba.trans (hb2.mono hba.size)⟩

set_option maxHeartbeats 800000 in
theorem zzEventID_any (b0 b1 b2 b3 b4 b5 b6 b7 : UInt8) (n : Nat) (hn : n < 18446744073709551616) (w : World) (htab : Tab w) :
    Calls Tryd.prog 5 #[tagV b0 b1 b2 b3 b4 b5 b6 b7, .int .u64 n] w fun e w' => e = .returned (.string (idB [b0, b1, b2, b3, b4, b5, b6, b7] n)) ∧ Below w.heap.size w w' := by
  go_enter Tryd.func5, Tryd.ntmps5
  go_wp2_with fail
  refine (eventID_any b0 b1 b2 b3 b4 b5 b6 b7 n hn _ (tab_on htab ((Below.refl _ _).alloc (Nat.le_refl _) _))).mono ?_
  rintro e w1 ⟨rfl, hb1⟩
  go_wp2
  go_ret
  exact ⟨rfl, ((Below.refl _ _).alloc (Nat.le_refl _) _).trans (hb1.mono (by simp))⟩

/-- One digit, as a string. -/
def digB (d : Nat) : ByteArray := ⟨#[UInt8.ofNat (48 + d)]⟩
set_option maxHeartbeats 400000 in
theorem zzDigit_any (d : Nat) (hd : d < 10) (w : World) :
    Calls Tryd.prog 7 #[.int .u64 d] w fun e w' => e = .returned (.string (digB d)) ∧ Below w.heap.size w w' := by
  have hb : (UInt8.ofNat (48 + d)).toNat = 48 + d := by simp; omega
  have hcv : (convert 31 9 (.slice (some ⟨w.heap.size, 0, none⟩) 1 1)).run Tryd.prog (w.alloc (.cells #[.int .u8 (48 + (d : Int))] 5)) = .ok (.string (digB d)) (w.alloc (.cells #[.int .u8 (48 + (d : Int))] 5)) :=
    run_convert_bytes_back (P := Tryd.prog) (w.alloc (.cells #[.int .u8 (48 + (d : Int))] 5)) 31 9 5 ⟨w.heap.size, 0, none⟩ 1 [UInt8.ofNat (48 + d)] Tryd.underlying31 Tryd.underlying5 Tryd.underlying9 (fun j hj => by
      have h0 : j = 0 := by simpa using hj
      subst h0
      rw [Lib.add_plain, World.cell?_alloc_new]
      show some (Value.int .u8 (48 + (d : Int))) = some (.int .u8 ((UInt8.ofNat (48 + d)).toNat : Int))
      rw [hb]
      rfl)
  clear hb
  go_enter Tryd.func7, Tryd.ntmps7
  go_wp2
  go_ret
  exact ⟨rfl, (Below.refl _ _).alloc (Nat.le_refl _) _⟩

end Go.Proofs.Qxb6615098aDoor
