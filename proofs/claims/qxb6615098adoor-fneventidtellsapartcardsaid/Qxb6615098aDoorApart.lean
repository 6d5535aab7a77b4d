import Derived.Test.Qxb6615098aDoorRows
import Derived.Test.Qxb6615098aDoorParse
import Derived.ChangeKeysEq
namespace Go.Proofs.Qxb6615098aDoor
open Go.RowKit Go.Lib

theorem run_part5 (xs : Array Value) (i : Nat) (v : Value) (h : xs[i]? = some v) (W : World) : (part 5 xs i).run Tryd.prog W = .ok v W := by
  simp [part, Tryd.isAgg5, h]
theorem run_items (f g : Nat → Int) (xs ys : Array Value) (W : World) : ∀ is : List Nat, (∀ i ∈ is, xs[i]? = some (.int .u8 (f i)) ∧ ys[i]? = some (.int .u8 (g i))) →
    (Op.eqItems 9999 5 1 xs ys is).run Tryd.prog W = .ok (is.all fun i => f i == g i) W := by
  intro is
  induction is with
  | nil => intro _; simp [Op.eqItems]
  | cons i is ih =>
    intro h
    have hi := h i (by simp)
    simp only [Op.eqItems, Nat.mul_one, Sem.run_bind, run_part5 xs i _ hi.1, run_part5 ys i _ hi.2, Result.andThen_ok, run_equalIn_int W 9998 5 .u8 .u8 _ _ Tryd.underlying5]
    cases hb : (f i == g i)
    · simp [hb]
    · simp only [Bool.not_true, Bool.false_eq_true, if_false, List.all_cons, hb, Bool.true_and]
      exact ih (fun j hj => h j (by simp [hj]))

theorem run_eql_tag (b0 b1 b2 b3 b4 b5 b6 b7 c0 c1 c2 c3 c4 c5 c6 c7 : UInt8) (W : World) :
    (binOp .eql 22 (tagV b0 b1 b2 b3 b4 b5 b6 b7) (tagV c0 c1 c2 c3 c4 c5 c6 c7)).run Tryd.prog W = .ok (.bool (decide ([b0, b1, b2, b3, b4, b5, b6, b7] = [c0, c1, c2, c3, c4, c5, c6, c7]))) W := by
  obtain ⟨i0, hi, hz0, hz1, hz2⟩ := info_parts Tryd.info5
  have hc5 : Tryd.prog.cellsOf 5 = 1 := by kernel_rfl
  have key : (Op.equalIn (9999 + 1) 22 (tagV b0 b1 b2 b3 b4 b5 b6 b7) (tagV c0 c1 c2 c3 c4 c5 c6 c7)).run Tryd.prog W = .ok (decide ([b0, b1, b2, b3, b4, b5, b6, b7] = [c0, c1, c2, c3, c4, c5, c6, c7])) W := by
    rw [run_equalIn_array W 9999 _ _ Tryd.underlying22 hi, hc5]
    rw [run_items (fun i => ((tagAt b0 b1 b2 b3 b4 b5 b6 b7 i).toNat : Int)) (fun i => ((tagAt c0 c1 c2 c3 c4 c5 c6 c7 i).toNat : Int)) _ _ W (List.range 8) (fun i hi => by
      have h8 : i < 8 := by simpa using hi
      exact ⟨tagAt_at b0 b1 b2 b3 b4 b5 b6 b7 i h8, tagAt_at c0 c1 c2 c3 c4 c5 c6 c7 i h8⟩)]
    congr 1
    rw [Bool.eq_iff_iff]
    simp only [List.all_eq_true, List.mem_range, beq_iff_eq, decide_eq_true_eq]
    constructor
    · intro h
      have e : ∀ x y : UInt8, ((x.toNat : Int) = (y.toNat : Int)) → x = y := fun x y h => UInt8.toNat_inj.mp (by omega)
      rw [e b0 c0 (h 0 (by omega)), e b1 c1 (h 1 (by omega)), e b2 c2 (h 2 (by omega)), e b3 c3 (h 3 (by omega)), e b4 c4 (h 4 (by omega)), e b5 c5 (h 5 (by omega)), e b6 c6 (h 6 (by omega)), e b7 c7 (h 7 (by omega))]
    · intro h i _
      unfold tagAt
      rw [h]
  simp only [binOp]
  simp [Op.equal, Op.maxDepth, key]

theorem cellsT {w' : World} {g : Nat} {b0 b1 b2 b3 b4 b5 b6 b7 : UInt8} (h : ∀ j, w'.cell? ⟨g, j, none⟩ = (tagC b0 b1 b2 b3 b4 b5 b6 b7)[j]?) :
    w'.cell? ⟨g, 0, none⟩ = some (.int .u8 b0.toNat) ∧ w'.cell? ⟨g, 1, none⟩ = some (.int .u8 b1.toNat) ∧ w'.cell? ⟨g, 2, none⟩ = some (.int .u8 b2.toNat) ∧ w'.cell? ⟨g, 3, none⟩ = some (.int .u8 b3.toNat) ∧ w'.cell? ⟨g, 4, none⟩ = some (.int .u8 b4.toNat) ∧ w'.cell? ⟨g, 5, none⟩ = some (.int .u8 b5.toNat) ∧ w'.cell? ⟨g, 6, none⟩ = some (.int .u8 b6.toNat) ∧ w'.cell? ⟨g, 7, none⟩ = some (.int .u8 b7.toNat) :=
  ⟨h 0, h 1, h 2, h 3, h 4, h 5, h 6, h 7⟩
/-- The first box. -/
theorem box1 {w w' : World} {A B : Array Value} (hb : Below (w.heap.size + 2) ((w.alloc (.cells A 22)).alloc (.cells B 22)) w') (j : Nat) : w'.cell? ⟨w.heap.size, j, none⟩ = A[j]? := by
  rw [hb.cell (p := ⟨w.heap.size, j, none⟩) (by simp), World.cell?_alloc_old _ _ _ (by simp), World.cell?_alloc_new]
/-- The second box. -/
theorem box2 {w w' : World} {A B : Array Value} (hb : Below (w.heap.size + 2) ((w.alloc (.cells A 22)).alloc (.cells B 22)) w') (j : Nat) : w'.cell? ⟨w.heap.size + 1, j, none⟩ = B[j]? := by
  have e := World.cell?_alloc_new (w.alloc (.cells A 22)) B 22 j
  rw [World.size_alloc] at e
  rw [hb.cell (p := ⟨w.heap.size + 1, j, none⟩) (by simp), e]

theorem toList_inj {a b : ByteArray} (h : a.toList = b.toList) : a = b := by
  rw [ByteArray.toList_eq, ByteArray.toList_eq] at h
  obtain ⟨⟨x⟩⟩ := a
  obtain ⟨⟨y⟩⟩ := b
  have h' : x = y := h
  rw [h']

theorem id_facts (b0 b1 b2 b3 b4 b5 b6 b7 : UInt8) (n : Nat) (hn : n < 18446744073709551616) :
    22 ≤ (idB [b0, b1, b2, b3, b4, b5, b6, b7] n).size ∧ (idB [b0, b1, b2, b3, b4, b5, b6, b7] n).size ≤ 41 ∧
    (idB [b0, b1, b2, b3, b4, b5, b6, b7] n).data.toList = idL [b0, b1, b2, b3, b4, b5, b6, b7] n ∧
    (idB [b0, b1, b2, b3, b4, b5, b6, b7] n).extract 21 (idB [b0, b1, b2, b3, b4, b5, b6, b7] n).size = decB n := by
  have h1 := decB_pos n
  have h2 := decB_size n hn
  have h3 : (idB [b0, b1, b2, b3, b4, b5, b6, b7] n).size = 21 + (decB n).size := by rw [idB_eq, ByteArray.size_append, headB_len]
  refine ⟨by omega, by omega, rfl, ?_⟩
  rw [h3, idB_eq]
  exact ByteArray.extract_append_eq_right (headB_len b0 b1 b2 b3 b4 b5 b6 b7).symm (by rw [headB_len])

set_option maxHeartbeats 1600000 in
theorem apart_walk (b0 b1 b2 b3 b4 b5 b6 b7 c0 c1 c2 c3 c4 c5 c6 c7 : UInt8) (m n : Nat) (hm : m < 18446744073709551616) (hn : n < 18446744073709551616) (w : World) (htab : Tab w) :
    Calls Tryd.prog 4 #[tagV b0 b1 b2 b3 b4 b5 b6 b7, .int .u64 m, tagV c0 c1 c2 c3 c4 c5 c6 c7, .int .u64 n] w fun e w' => e = .returned (.bool true) ∧ Below w.heap.size w w' := by
  obtain ⟨hx1, hx2, hx3, hx4⟩ := id_facts b0 b1 b2 b3 b4 b5 b6 b7 m hm
  obtain ⟨hy1, hy2, hy3, hy4⟩ := id_facts c0 c1 c2 c3 c4 c5 c6 c7 n hn
  have HP1 := Lib.hid (fun W => parse_any b0 b1 b2 b3 b4 b5 b6 b7 _ m hm hx1 hx2 hx3 hx4 W)
  have HP2 := Lib.hid (fun W => parse_any c0 c1 c2 c3 c4 c5 c6 c7 _ n hn hy1 hy2 hy3 hy4 W)
  clear hx1 hx2 hx3 hx4 hy1 hy2 hy3 hy4
  have hbase : Below w.heap.size w ((w.alloc (.cells (tagC b0 b1 b2 b3 b4 b5 b6 b7) 22)).alloc (.cells (tagC c0 c1 c2 c3 c4 c5 c6 c7) 22)) := ((Below.refl _ _).alloc (Nat.le_refl _) _).alloc (by simp) _
  go_enter Tryd.func4, Tryd.ntmps4
  go_wp2_with fail
  refine (zzEventID_any b0 b1 b2 b3 b4 b5 b6 b7 m hm _ (tab_on htab hbase)).mono ?_
  rintro e w1 ⟨rfl, hb1⟩
  have hB1 : Below (w.heap.size + 2) ((w.alloc (.cells (tagC b0 b1 b2 b3 b4 b5 b6 b7) 22)).alloc (.cells (tagC c0 c1 c2 c3 c4 c5 c6 c7) 22)) w1 := hb1.mono (by simp)
  clear hb1
  obtain ⟨q0, q1, q2, q3, q4, q5, q6, q7⟩ := cellsT (box2 hB1)
  go_wp2_with fail
  refine (zzEventID_any c0 c1 c2 c3 c4 c5 c6 c7 n hn _ (tab_on htab (hbase.trans (hB1.mono (by omega))))).mono ?_
  rintro e w2 ⟨rfl, hb2⟩
  clear q0 q1 q2 q3 q4 q5 q6 q7
  have hs1 : w.heap.size + 2 ≤ w1.heap.size := by have := hB1.size; simpa using this
  have hB2 := hB1.trans (hb2.mono hs1)
  clear hb2 hB1
  obtain ⟨q0, q1, q2, q3, q4, q5, q6, q7⟩ := cellsT (box1 hB2)
  go_wp2_with fail
  refine (HP1.out _).mono ?_
  rintro e w3 ⟨rfl, hb3⟩
  clear q0 q1 q2 q3 q4 q5 q6 q7 hs1
  have hs2 : w.heap.size + 2 ≤ w2.heap.size := by have := hB2.size; simpa using this
  have hB3 := hB2.trans (hb3.mono hs2)
  clear hb3 hB2
  obtain ⟨q0, q1, q2, q3, q4, q5, q6, q7⟩ := cellsT (box2 hB3)
  go_wp2_with fail
  refine (HP2.out _).mono ?_
  rintro e w4 ⟨rfl, hb4⟩
  clear q0 q1 q2 q3 q4 q5 q6 q7 hs2
  have hs3 : w.heap.size + 2 ≤ w3.heap.size := by have := hB3.size; simpa using this
  have hB4 := hB3.trans (hb4.mono hs3)
  clear hb4 hB3 hs3
  obtain ⟨q0, q1, q2, q3, q4, q5, q6, q7⟩ := cellsT (box1 hB4)
  obtain ⟨r0, r1, r2, r3, r4, r5, r6, r7⟩ := cellsT (box2 hB4)
  have hfin := hbase.trans (hB4.mono (by omega))
  clear hB4 hbase HP1 HP2 htab
  have heq := fun W => run_eql_tag b0 b1 b2 b3 b4 b5 b6 b7 c0 c1 c2 c3 c4 c5 c6 c7 W
  by_cases hT : [b0, b1, b2, b3, b4, b5, b6, b7] = [c0, c1, c2, c3, c4, c5, c6, c7]
  · by_cases hS : m = n
    · have hE : ((idB [b0, b1, b2, b3, b4, b5, b6, b7] m).toList == (idB [c0, c1, c2, c3, c4, c5, c6, c7] n).toList) = true := by rw [hT, hS]; exact beq_self_eq_true _
      rw [decide_eq_true hT] at heq
      have hS' : ((m : Int) == (n : Int)) = true := by simp [hS]
      clear hT hS
      go_wp2
      go_ret
      exact ⟨rfl, hfin⟩
    · have hE : ((idB [b0, b1, b2, b3, b4, b5, b6, b7] m).toList == (idB [c0, c1, c2, c3, c4, c5, c6, c7] n).toList) = false := by
        rw [beq_eq_false_iff_ne]
        intro h
        exact hS (idB_inj (S := [b0, b1, b2, b3, b4, b5, b6, b7]) (T := [c0, c1, c2, c3, c4, c5, c6, c7]) rfl (toList_inj h)).2
      rw [decide_eq_true hT] at heq
      have hS' : ((m : Int) == (n : Int)) = false := by simp; omega
      clear hT hS
      go_wp2
      go_ret
      exact ⟨rfl, hfin⟩
  · have hE : ((idB [b0, b1, b2, b3, b4, b5, b6, b7] m).toList == (idB [c0, c1, c2, c3, c4, c5, c6, c7] n).toList) = false := by
      rw [beq_eq_false_iff_ne]
      intro h
      exact hT (idB_inj (S := [b0, b1, b2, b3, b4, b5, b6, b7]) (T := [c0, c1, c2, c3, c4, c5, c6, c7]) rfl (toList_inj h)).1
    rw [decide_eq_false hT] at heq
    clear hT
    go_wp2
    go_ret
    exact ⟨rfl, hfin⟩
end Go.Proofs.Qxb6615098aDoor
