import Derived.Test.Qxb6615098aDoorRows
import Derived.Test.Qxb6615098aDoorHead
namespace Go.Proofs.Qxb6615098aDoor
open Go.RowKit Go.Lib

theorem ret_bool {a b : Bool} (h : a = b) : Ending.returned (.bool a) = .returned (.bool b) := by rw [h]
/-- The tag in its box, in whatever later world. -/
theorem cells8 {w w' : World} {b0 b1 b2 b3 b4 b5 b6 b7 : UInt8} (hb : Below (w.heap.size + 1) (w.alloc (.cells (tagC b0 b1 b2 b3 b4 b5 b6 b7) 22)) w') :
    w'.cell? ⟨w.heap.size, 0, none⟩ = some (.int .u8 b0.toNat) ∧ w'.cell? ⟨w.heap.size, 1, none⟩ = some (.int .u8 b1.toNat) ∧ w'.cell? ⟨w.heap.size, 2, none⟩ = some (.int .u8 b2.toNat) ∧ w'.cell? ⟨w.heap.size, 3, none⟩ = some (.int .u8 b3.toNat) ∧ w'.cell? ⟨w.heap.size, 4, none⟩ = some (.int .u8 b4.toNat) ∧ w'.cell? ⟨w.heap.size, 5, none⟩ = some (.int .u8 b5.toNat) ∧ w'.cell? ⟨w.heap.size, 6, none⟩ = some (.int .u8 b6.toNat) ∧ w'.cell? ⟨w.heap.size, 7, none⟩ = some (.int .u8 b7.toNat) := by
  have h : ∀ j, w'.cell? ⟨w.heap.size, j, none⟩ = (tagC b0 b1 b2 b3 b4 b5 b6 b7)[j]? := fun j => by
    rw [hb.cell (p := ⟨w.heap.size, j, none⟩) (by simp), World.cell?_alloc_new]
  exact ⟨h 0, h 1, h 2, h 3, h 4, h 5, h 6, h 7⟩

theorem headB_len (b0 b1 b2 b3 b4 b5 b6 b7 : UInt8) : (headB [b0, b1, b2, b3, b4, b5, b6, b7]).size = 21 := rfl
theorem idB_eq (T : List UInt8) (n : Nat) : idB T n = headB T ++ decB n := by
  apply ByteArray.ext
  rw [ByteArray.data_append]
  unfold idB headB decB
  simp
theorem decB_pos (n : Nat) : 1 ≤ (decB n).size := by
  show 1 ≤ (Lib.decDigits n).toArray.size
  rw [List.size_toArray, Lib.decDigits_length]
  exact Lib.nDigits_pos n
theorem decB_small (n : Nat) (h : n < 10) : decB n = digB n := by
  unfold decB digB
  rw [Lib.decDigits_one h]
theorem decB_big (n : Nat) (h : ¬ n < 10) : decB n = decB (n / 10) ++ digB (n % 10) := by
  apply ByteArray.ext
  rw [ByteArray.data_append]
  unfold decB digB
  rw [Lib.decDigits, dif_neg h]
  simp

theorem extract_head (a b : ByteArray) (k : Nat) (h : a.size = k) : (a ++ b).extract 0 k = a := by
  subst h
  exact ByteArray.extract_append_eq_left rfl

set_option maxHeartbeats 800000 in
theorem tail_walk (b0 b1 b2 b3 b4 b5 b6 b7 : UInt8) (n : Nat) (hn : n < 18446744073709551616) (w : World) (htab : Tab w) :
    Calls Tryd.prog 3 #[tagV b0 b1 b2 b3 b4 b5 b6 b7, .int .u64 n] w fun e w' => e = .returned (.bool true) ∧ Below w.heap.size w w' := by
  have hidlo : 22 ≤ (idB [b0, b1, b2, b3, b4, b5, b6, b7] n).size := by
    rw [idB_eq, ByteArray.size_append, headB_len]
    have := decB_pos n
    omega
  have hidhi : (idB [b0, b1, b2, b3, b4, b5, b6, b7] n).size ≤ 41 := by
    rw [idB_eq, ByteArray.size_append, headB_len]
    have := decB_size n hn
    omega
  have hext : (idB [b0, b1, b2, b3, b4, b5, b6, b7] n).extract 0 21 = headB [b0, b1, b2, b3, b4, b5, b6, b7] := by
    rw [idB_eq]
    exact extract_head _ _ _ (headB_len b0 b1 b2 b3 b4 b5 b6 b7)
  have hheq : ((headB [b0, b1, b2, b3, b4, b5, b6, b7]).toList == (headB [b0, b1, b2, b3, b4, b5, b6, b7]).toList) = true := beq_self_eq_true _
  have hhs : (headB [b0, b1, b2, b3, b4, b5, b6, b7]).size ≤ 21 := Nat.le_of_eq (headB_len b0 b1 b2 b3 b4 b5 b6 b7)
  by_cases h10 : n < 10
  · have hds : (digB n).size ≤ 1 := Nat.le_refl _
    have Hfin := Lib.hid (show idB [b0, b1, b2, b3, b4, b5, b6, b7] n = headB [b0, b1, b2, b3, b4, b5, b6, b7] ++ digB n by rw [idB_eq, decB_small n h10])
    go_enter Tryd.func3, Tryd.ntmps3
    go_wp2_with fail
    refine (zzEventID_any b0 b1 b2 b3 b4 b5 b6 b7 n hn _ (tab_on htab ((Below.refl _ _).alloc (Nat.le_refl _) _))).mono ?_
    rintro e w1 ⟨rfl, hb1⟩
    have hb1' : Below (w.heap.size + 1) (w.alloc (.cells (tagC b0 b1 b2 b3 b4 b5 b6 b7) 22)) w1 := hb1.mono (by simp)
    obtain ⟨p0, p1, p2, p3, p4, p5, p6, p7⟩ := cells8 hb1'
    have hsz1 := hb1.size
    simp only [World.size_alloc] at hsz1
    go_wp2_with fail
    refine (zzHead_any b0 b1 b2 b3 b4 b5 b6 b7 w1).mono ?_
    rintro e w2 ⟨rfl, hb2⟩
    clear p0 p1 p2 p3 p4 p5 p6 p7
    go_wp2_with fail
    refine (zzDigit_any n h10 w2).mono ?_
    rintro e w3 ⟨rfl, hb3⟩
    go_wp2
    go_ret
    exact ⟨ret_bool (by rw [Hfin.out]; exact beq_self_eq_true _), (((Below.refl _ _).alloc (Nat.le_refl _) _).trans (hb1.mono (by simp))).trans ((hb2.trans (hb3.mono hb2.size)).mono (by omega))⟩
  · have hds : (digB (n % 10)).size ≤ 1 := Nat.le_refl _
    have hid2 : (idB [b0, b1, b2, b3, b4, b5, b6, b7] (n / 10)).size ≤ 41 := by
      rw [idB_eq, ByteArray.size_append, headB_len]
      have := decB_size (n / 10) (by omega)
      omega
    have Hfin := Lib.hid (show idB [b0, b1, b2, b3, b4, b5, b6, b7] n = idB [b0, b1, b2, b3, b4, b5, b6, b7] (n / 10) ++ digB (n % 10) by rw [idB_eq, idB_eq, decB_big n h10, ByteArray.append_assoc])
    go_enter Tryd.func3, Tryd.ntmps3
    go_wp2_with fail
    refine (zzEventID_any b0 b1 b2 b3 b4 b5 b6 b7 n hn _ (tab_on htab ((Below.refl _ _).alloc (Nat.le_refl _) _))).mono ?_
    rintro e w1 ⟨rfl, hb1⟩
    have hb1' : Below (w.heap.size + 1) (w.alloc (.cells (tagC b0 b1 b2 b3 b4 b5 b6 b7) 22)) w1 := hb1.mono (by simp)
    obtain ⟨p0, p1, p2, p3, p4, p5, p6, p7⟩ := cells8 hb1'
    have hsz1 := hb1.size
    simp only [World.size_alloc] at hsz1
    go_wp2_with fail
    refine (zzHead_any b0 b1 b2 b3 b4 b5 b6 b7 w1).mono ?_
    rintro e w2 ⟨rfl, hb2⟩
    clear p0 p1 p2 p3 p4 p5 p6 p7
    have hb2' : Below (w.heap.size + 1) (w.alloc (.cells (tagC b0 b1 b2 b3 b4 b5 b6 b7) 22)) w2 := hb1'.trans (hb2.mono hsz1)
    obtain ⟨p0, p1, p2, p3, p4, p5, p6, p7⟩ := cells8 hb2'
    have ht2 : Tab w2 := tab_on htab (((Below.refl _ _).alloc (Nat.le_refl _) _).trans (hb2'.mono (by omega)))
    go_wp2_with fail
    rw [show ((n : Int) / 10) = ((n / 10 : Nat) : Int) by omega]
    refine (zzEventID_any b0 b1 b2 b3 b4 b5 b6 b7 (n / 10) (by omega) _ ht2).mono ?_
    rintro e w3 ⟨rfl, hb3⟩
    clear p0 p1 p2 p3 p4 p5 p6 p7
    go_wp2_with fail
    rw [show ((n : Int) % 10) = ((n % 10 : Nat) : Int) by omega]
    refine (zzDigit_any (n % 10) (by omega) _).mono ?_
    rintro e w4 ⟨rfl, hb4⟩
    go_wp2
    go_ret
    exact ⟨ret_bool (by rw [Hfin.out]; exact beq_self_eq_true _), (((Below.refl _ _).alloc (Nat.le_refl _) _).trans (hb1.mono (by simp))).trans ((hb2.trans ((hb3.trans (hb4.mono hb3.size)).mono hb2.size)).mono (by omega))⟩
end Go.Proofs.Qxb6615098aDoor
