import Derived.Test.Qxb6615484aBase
import Derived.RegionTactic
namespace Go.Proofs.Qxb6615484a
open Go.RowKit Go.Maps

/-- A branch's cells. -/
def brC (f : Bool) : List Value := [.string ByteArray.empty, .bool false, .bool f]
def brCs (l : List Bool) : List Value := l.flatMap brC
theorem brCs_len (l : List Bool) : (brCs l).length = l.length * 3 := by
  unfold brCs; induction l with
  | nil => rfl
  | cons a l ih => rw [List.flatMap_cons, List.length_append, ih, List.length_cons]; show 3 + _ = _; omega
theorem brCs_at (l : List Bool) : ∀ (k : Nat) (h : k < l.length), (brCs l)[k * 3]? = some (.string ByteArray.empty) ∧ (brCs l)[k * 3 + 1]? = some (.bool false) ∧ (brCs l)[k * 3 + 2]? = some (.bool l[k]) := by
  induction l with
  | nil => intro k h; simp at h
  | cons a l ih =>
    intro k h
    cases k with
    | zero => exact ⟨rfl, rfl, rfl⟩
    | succ k =>
      have h' : k < l.length := by simpa using h
      obtain ⟨h1, h2, h3⟩ := ih k h'
      have e : ∀ j, (brCs (a :: l))[(k + 1) * 3 + j]? = (brCs l)[k * 3 + j]? := fun j => by
        unfold brCs
        rw [List.flatMap_cons, List.getElem?_append_right (by show 3 ≤ _; omega)]
        congr 1
        show (k + 1) * 3 + j - 3 = _
        omega
      exact ⟨(e 0).trans h1, (e 1).trans h2, (e 2).trans h3⟩

/-- Three cells in a row of the call's own. -/
theorem row3 {w : World} {base e n cap g : Nat} {xs : List Value} (h : w.ownsRow base e 3 (.slice (some ⟨g, 0, none⟩) n cap) n xs) (k j : Nat) (hk : k < n) (hj : j < 3) : w.cell? ⟨g, k * 3 + j, none⟩ = xs[k * 3 + j]? :=
  h.cellAt (k * 3 + j) (by omega)


def anyNo (l : List Bool) : Bool := l.any (!·)
theorem any_no (l : List Bool) (k : Nat) (h : k < l.length) (hk : l[k] = false) : l.any (!·) = true := by
  rw [List.any_eq_true]
  exact ⟨l[k], List.getElem_mem h, by simp [hk]⟩
theorem all_succ (l : List Bool) (k : Nat) (h : k < l.length) (ha : (l.take k).any (!·) = false) (hk : l[k] = true) : (l.take (k + 1)).any (!·) = false := by
  rw [List.take_succ_eq_append_getElem h, List.any_append, ha]
  simp [hk]
theorem all_end (l : List Bool) (k : Nat) (h : ¬ k < l.length) (ha : (l.take k).any (!·) = false) : l.any (!·) = false := by
  rw [List.take_of_length_le (by omega)] at ha
  exact ha

set_option maxHeartbeats 800000 in
theorem index_br (fin : List Bool) (v : Value) (base : Nat) (w : World) (hlen : fin.length ≤ 4096) (hown : w.ownsRow base 68 3 v fin.length (brCs fin)) :
    Calls Try.prog 20 #[v, .func (.func 17) #[] #[]] w fun e w' => (∃ z : Int, e = .returned (.int .i64 z) ∧ decide (0 ≤ z) = fin.any (!·)) ∧ Below w.heap.size w w' := by
  rcases hown.2 with ⟨rfl, h0⟩ | ⟨g, cap, cur, rfl, hbg, hg, hnc, hcm, hcs, htake⟩
  · obtain rfl : fin = [] := List.length_eq_zero_iff.1 h0
    go_enter Try.func20, Try.ntmps20
    go_wp2
    go_loopw [5, 8] (fun _ t wr => t = .int .i64 0 ∧ wr = w) (fun _ _ _ => 0)
    case atStart => exact ⟨rfl, rfl⟩
    case round =>
      obtain ⟨rfl, rfl⟩ := hrel
      go_wp2
      go_ret
      exact ⟨⟨_, rfl, rfl⟩, Below.refl _ _⟩
  · have hgl : g < w.heap.size := (Array.getElem?_eq_some_iff.1 hg).1
    have Hown := Lib.hid hown
    clear hown hg hnc hcm hcs htake hbg
    go_enter Try.func20, Try.ntmps20
    go_wp2
    go_loopw [5, 8] (fun _ t wr => ∃ k : Nat, k ≤ fin.length ∧ t = .int .i64 k ∧ Hid ((fin.take k).any (!·) = false) ∧ Below w.heap.size w wr) (fun _ t _ => fin.length - (RowKit.intOf t).toNat)
    case atStart => exact ⟨0, Nat.zero_le _, rfl, rfl, Below.refl _ _⟩
    case round =>
      obtain ⟨k, hk, rfl, hall, hbel⟩ := hrel
      by_cases hlt : k < fin.length
      · obtain ⟨q0, q1, q2⟩ := brCs_at fin k hlt
        have p0 : wr.cell? ⟨g, k * 3, none⟩ = some (.string ByteArray.empty) := (hbel.cell (p := ⟨g, k * 3, none⟩) hgl).trans ((row3 Hown.out k 0 hlt (by omega)).trans q0)
        have p1 : wr.cell? ⟨g, k * 3 + 1, none⟩ = some (.bool false) := (hbel.cell (p := ⟨g, k * 3 + 1, none⟩) hgl).trans ((row3 Hown.out k 1 hlt (by omega)).trans q1)
        have p2 : wr.cell? ⟨g, k * 3 + 2, none⟩ = some (.bool fin[k]) := (hbel.cell (p := ⟨g, k * 3 + 2, none⟩) hgl).trans ((row3 Hown.out k 2 hlt (by omega)).trans q2)
        clear q0 q1 q2 Hown
        cases hf : fin[k]
        · have He := Lib.hid (any_no fin k hlt hf)
          rw [hf] at p2
          clear hf
          go_wp2_with fail
          refine (clos17 _ _ _ _).mono ?_
          rintro e w1 ⟨rfl, hb1⟩
          go_wp2
          go_ret
          exact ⟨⟨_, rfl, by rw [He.out]; simp⟩, hbel.trans (hb1.mono hbel.size)⟩
        · have He := Lib.hid (all_succ fin k hlt hall.out hf)
          rw [hf] at p2
          clear hf
          go_wp2_with fail
          refine (clos17 _ _ _ _).mono ?_
          rintro e w1 ⟨rfl, hb1⟩
          go_wp2
          go_roundw
          case rel => exact ⟨k + 1, by omega, by go_num, He, hbel.trans (hb1.mono hbel.size)⟩
          case measure => simp [RowKit.intOf]; omega
      · have He := Lib.hid (all_end fin k hlt hall.out)
        clear Hown
        go_wp2
        go_ret
        exact ⟨⟨_, rfl, by rw [He.out]; rfl⟩, hbel⟩

theorem contains_br (fin : List Bool) (v : Value) (base : Nat) (w : World) (hlen : fin.length ≤ 4096) (hown : w.ownsRow base 68 3 v fin.length (brCs fin)) :
    Calls Try.prog 16 #[v, .func (.func 17) #[] #[]] w fun e w' => e = .returned (.bool (anyNo fin)) ∧ Below w.heap.size w w' := by
  have H := Lib.hid (index_br fin v base w hlen hown)
  clear hown
  go_enter Try.func16, Try.ntmps16
  go_wp2_with fail
  refine H.out.mono ?_
  rintro e w1 ⟨⟨z, rfl, hz⟩, hb⟩
  have Hz := Lib.hid hz
  clear hz
  go_wp2
  go_ret
  exact ⟨ret_bool Hz.out, hb⟩

/-- A subordinate's cells. -/
def rC (s : Sub) : List Value := [.string s.1, .string s.2.1, .string s.2.2]
def rCs (l : List Sub) : List Value := l.flatMap rC
theorem rCs_len (l : List Sub) : (rCs l).length = l.length * 3 := by
  unfold rCs; induction l with
  | nil => rfl
  | cons a l ih => rw [List.flatMap_cons, List.length_append, ih, List.length_cons]; show 3 + _ = _; omega
theorem rCs_at (l : List Sub) : ∀ (k : Nat) (h : k < l.length), (rCs l)[k * 3]? = some (.string l[k].1) ∧ (rCs l)[k * 3 + 1]? = some (.string l[k].2.1) ∧ (rCs l)[k * 3 + 2]? = some (.string l[k].2.2) := by
  induction l with
  | nil => intro k h; simp at h
  | cons a l ih =>
    intro k h
    cases k with
    | zero => exact ⟨rfl, rfl, rfl⟩
    | succ k =>
      have h' : k < l.length := by simpa using h
      obtain ⟨h1, h2, h3⟩ := ih k h'
      have e : ∀ j, (rCs (a :: l))[(k + 1) * 3 + j]? = (rCs l)[k * 3 + j]? := fun j => by
        unfold rCs
        rw [List.flatMap_cons, List.getElem?_append_right (by show 3 ≤ _; omega)]
        congr 1
        show (k + 1) * 3 + j - 3 = _
        omega
      exact ⟨(e 0).trans h1, (e 1).trans h2, (e 2).trans h3⟩

theorem any_miss (p : Sub → Bool) (l : List Sub) (k : Nat) (h : k < l.length) (hk : p l[k] = false) : l.any (fun s => !p s) = true := by
  rw [List.any_eq_true]
  exact ⟨l[k], List.getElem_mem h, by simp [hk]⟩
theorem all_succ' (p : Sub → Bool) (l : List Sub) (k : Nat) (h : k < l.length) (ha : (l.take k).any (fun s => !p s) = false) (hk : p l[k] = true) : (l.take (k + 1)).any (fun s => !p s) = false := by
  rw [List.take_succ_eq_append_getElem h, List.any_append, ha]
  simp [hk]
theorem all_end' (p : Sub → Bool) (l : List Sub) (k : Nat) (h : ¬ k < l.length) (ha : (l.take k).any (fun s => !p s) = false) : l.any (fun s => !p s) = false := by
  rw [List.take_of_length_le (by omega)] at ha
  exact ha
theorem owns_below {w wr : World} {M n : Nat} {D : DataW Unit} (h : Owns w M n D) (hb : Below w.heap.size w wr) : Owns wr M n D := by
  have hlt := World.ownsMap.lt h
  obtain ⟨es, clock, hh, r⟩ := h
  exact ⟨es, clock, (hb.block M hlt).trans hh, r⟩
theorem blk_of_cell {w : World} {b o : Nat} {v : Value} (h : w.cell? ⟨b, o, none⟩ = some v) : b < w.heap.size := World.block_lt_of_cell? w ⟨b, o, none⟩ h

set_option maxHeartbeats 800000 in
/-- The closure over a subordinate. -/
theorem clos19 (s : Sub) (hs : Fits s) (X T M n : Nat) (D : DataW Unit) (w : World)
    (hX : w.cell? ⟨X, 0, none⟩ = some (.pointer (some ⟨T, 0, none⟩))) (hT : w.cell? ⟨T, 5, none⟩ = some (.map (some M))) (hM : Owns w M n D) :
    Calls Try.prog 19 #[.agg #[.string s.1, .string s.2.1, .string s.2.2], .pointer (some ⟨X, 0, none⟩)] w fun e w' => e = .returned (.bool (!atB D s)) ∧ Below w.heap.size w w' := by
  have hlk := lookup_sub (World.ownsMap.drew (World.ownsMap.alloc hM (.cells #[.string s.1, .string s.2.1, .string s.2.2] 70))) s hs
  have hx := blk_of_cell hX
  have ht := blk_of_cell hT
  have hXa : ∀ o : Obj, (w.alloc o).cell? ⟨X, 0, none⟩ = some (.pointer (some ⟨T, 0, none⟩)) := fun o => by rw [World.cell?_alloc_old _ _ _ (by show X ≠ w.heap.size; omega)]; exact hX
  have hTa : ∀ o : Obj, (w.alloc o).cell? ⟨T, 5, none⟩ = some (.map (some M)) := fun o => by rw [World.cell?_alloc_old _ _ _ (by show T ≠ w.heap.size; omega)]; exact hT
  clear hX hT hM
  go_enter Try.func19, Try.ntmps19
  go_wp2
  go_region
  all_goals go_wp2
  all_goals go_ret
  all_goals exact ⟨rfl, ((Below.refl _ _).alloc (Nat.le_refl _) _).drew⟩

set_option maxHeartbeats 800000 in
theorem index_sub (subs : List Sub) (v : Value) (base X T M n : Nat) (D : DataW Unit) (w : World) (hlen : subs.length ≤ 4096) (hfit : ∀ s ∈ subs, Fits s) (hown : w.ownsRow base 70 3 v subs.length (rCs subs))
    (hX : w.cell? ⟨X, 0, none⟩ = some (.pointer (some ⟨T, 0, none⟩))) (hT : w.cell? ⟨T, 5, none⟩ = some (.map (some M))) (hM : Owns w M n D) :
    Calls Try.prog 21 #[v, .func (.func 19) #[] #[.pointer (some ⟨X, 0, none⟩)]] w fun e w' => (∃ z : Int, e = .returned (.int .i64 z) ∧ decide (0 ≤ z) = subs.any (fun s => !atB D s)) ∧ Below w.heap.size w w' := by
  rcases hown.2 with ⟨rfl, h0⟩ | ⟨g, cap, cur, rfl, hbg, hg, hnc, hcm, hcs, htake⟩
  · obtain rfl : subs = [] := List.length_eq_zero_iff.1 h0
    go_enter Try.func21, Try.ntmps21
    go_wp2
    go_loopw [5, 8] (fun _ t wr => t = .int .i64 0 ∧ wr = w) (fun _ _ _ => 0)
    case atStart => exact ⟨rfl, rfl⟩
    case round =>
      obtain ⟨rfl, rfl⟩ := hrel
      go_wp2
      go_ret
      exact ⟨⟨_, rfl, rfl⟩, Below.refl _ _⟩
  · have hgl : g < w.heap.size := (Array.getElem?_eq_some_iff.1 hg).1
    have Hown := Lib.hid hown
    have HM := Lib.hid hM
    clear hown hg hnc hcm hcs htake hbg hM
    go_enter Try.func21, Try.ntmps21
    go_wp2
    go_loopw [5, 8] (fun _ t wr => ∃ k : Nat, k ≤ subs.length ∧ t = .int .i64 k ∧ Hid ((subs.take k).any (fun s => !atB D s) = false) ∧ Below w.heap.size w wr) (fun _ t _ => subs.length - (RowKit.intOf t).toNat)
    case atStart => exact ⟨0, Nat.zero_le _, rfl, rfl, Below.refl _ _⟩
    case round =>
      obtain ⟨k, hk, rfl, hall, hbel⟩ := hrel
      by_cases hlt : k < subs.length
      · obtain ⟨q0, q1, q2⟩ := rCs_at subs k hlt
        have p0 : wr.cell? ⟨g, k * 3, none⟩ = some (.string subs[k].1) := (hbel.cell (p := ⟨g, k * 3, none⟩) hgl).trans ((row3 Hown.out k 0 hlt (by omega)).trans q0)
        have p1 : wr.cell? ⟨g, k * 3 + 1, none⟩ = some (.string subs[k].2.1) := (hbel.cell (p := ⟨g, k * 3 + 1, none⟩) hgl).trans ((row3 Hown.out k 1 hlt (by omega)).trans q1)
        have p2 : wr.cell? ⟨g, k * 3 + 2, none⟩ = some (.string subs[k].2.2) := (hbel.cell (p := ⟨g, k * 3 + 2, none⟩) hgl).trans ((row3 Hown.out k 2 hlt (by omega)).trans q2)
        clear q0 q1 q2 Hown
        have hX' : wr.cell? ⟨X, 0, none⟩ = some (.pointer (some ⟨T, 0, none⟩)) := (hbel.cell (p := ⟨X, 0, none⟩) (blk_of_cell hX)).trans hX
        have hT' : wr.cell? ⟨T, 5, none⟩ = some (.map (some M)) := (hbel.cell (p := ⟨T, 5, none⟩) (blk_of_cell hT)).trans hT
        have HC := Lib.hid (clos19 subs[k] (hfit _ (List.getElem_mem hlt)) X T M n D wr hX' hT' (owns_below HM.out hbel))
        clear hX' hT' hX hT HM hfit
        cases hf : atB D subs[k]
        · have He := Lib.hid (any_miss (atB D) subs k hlt hf)
          rw [hf] at HC
          clear hf
          generalize subs[k] = s at *
          go_wp2_with fail
          refine HC.out.mono ?_
          rintro e w1 ⟨rfl, hb1⟩
          go_wp2
          go_ret
          exact ⟨⟨_, rfl, by rw [He.out]; simp⟩, hbel.trans (hb1.mono hbel.size)⟩
        · have He := Lib.hid (all_succ' (atB D) subs k hlt hall.out hf)
          rw [hf] at HC
          clear hf
          generalize subs[k] = s at *
          go_wp2_with fail
          refine HC.out.mono ?_
          rintro e w1 ⟨rfl, hb1⟩
          go_wp2
          go_roundw
          case rel => exact ⟨k + 1, by omega, by go_num, He, hbel.trans (hb1.mono hbel.size)⟩
          case measure => simp [RowKit.intOf]; omega
      · have He := Lib.hid (all_end' (atB D) subs k hlt hall.out)
        clear Hown HM hX hT
        go_wp2
        go_ret
        exact ⟨⟨_, rfl, by rw [He.out]; rfl⟩, hbel⟩

def anyMiss (D : DataW Unit) (l : List Sub) : Bool := l.any (fun s => !atB D s)
theorem contains_sub (subs : List Sub) (v : Value) (base X T M n : Nat) (D : DataW Unit) (w : World) (hlen : subs.length ≤ 4096) (hfit : ∀ s ∈ subs, Fits s) (hown : w.ownsRow base 70 3 v subs.length (rCs subs))
    (hX : w.cell? ⟨X, 0, none⟩ = some (.pointer (some ⟨T, 0, none⟩))) (hT : w.cell? ⟨T, 5, none⟩ = some (.map (some M))) (hM : Owns w M n D) :
    Calls Try.prog 18 #[v, .func (.func 19) #[] #[.pointer (some ⟨X, 0, none⟩)]] w fun e w' => e = .returned (.bool (anyMiss D subs)) ∧ Below w.heap.size w w' := by
  have H := Lib.hid (index_sub subs v base X T M n D w hlen hfit hown hX hT hM)
  clear hown hX hT hM
  go_enter Try.func18, Try.ntmps18
  go_wp2_with fail
  refine H.out.mono ?_
  rintro e w1 ⟨⟨z, rfl, hz⟩, hb⟩
  have Hz := Lib.hid hz
  clear hz
  go_wp2
  go_ret
  exact ⟨ret_bool Hz.out, hb⟩
end Go.Proofs.Qxb6615484a
