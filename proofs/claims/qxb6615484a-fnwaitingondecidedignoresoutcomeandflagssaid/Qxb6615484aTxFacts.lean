import Derived.Test.Qxb6615484aWaitOn
import Derived.Deep.RegionLaw
import Derived.Deep.RegionHeld3
import Derived.Deep.AppendLies
import Derived.Deep.DeepCutAuto
import Derived.Deep.CutBlock
import Derived.Laws.EntriesVeiled
namespace Go.Proofs.Qxb6615484a
open Go.RowKit Go.Maps

/-- A slice's cells, as far as they are asked for. -/
def At (w : World) (a : Option Addr) (n : Nat) (f : Nat → Value) : Prop := n = 0 ∨ ∃ b o, a = some ⟨b, o, none⟩ ∧ b < w.heap.size ∧ ∀ j, j < n → w.cell? ⟨b, o + j, none⟩ = some (f j)

/-- The told map, as far as it is written. -/
def DTo (subs : List Sub) (told : List Bool) : Nat → DataW Unit
  | 0 => .map []
  | k + 1 => if told.getD k false = true then (DTo subs told k).put (keyL (subs.getD k (ByteArray.empty, ByteArray.empty, ByteArray.empty))) (.lit (.bool true)) else DTo subs told k

/-- The transaction's cells. -/
def TxW (wx : World) (T M : Nat) (st : Int) (vB vS : Value) : Prop :=
  wx.cell? ⟨T, 0, none⟩ = some (.int .i64 st) ∧ wx.cell? ⟨T, 3, none⟩ = some vB ∧ wx.cell? ⟨T, 4, none⟩ = some vS ∧ wx.cell? ⟨T, 5, none⟩ = some (.map (some M)) ∧ wx.cell? ⟨T, 13, none⟩ = some (.int .i64 0) ∧ ∀ j, wx.frozen? ⟨T, j, none⟩ = false
theorem txw_block {wx : World} {T M : Nat} {st : Int} {vB vS : Value} {cs : Array Value} (h : wx.heap[T]? = some (.cells cs 61 (0, 0)))
    (h0 : cs[0]? = some (.int .i64 st)) (h3 : cs[3]? = some vB) (h4 : cs[4]? = some vS) (h5 : cs[5]? = some (.map (some M))) (h13 : cs[13]? = some (.int .i64 0)) : TxW wx T M st vB vS := by
  have hc : ∀ j, wx.cell? ⟨T, j, none⟩ = cs[j]? := fun j => by simp [World.cell?, h]
  exact ⟨(hc 0).trans h0, (hc 3).trans h3, (hc 4).trans h4, (hc 5).trans h5, (hc 13).trans h13, fun j => by simp [World.frozen?, h]⟩
theorem TxW.keep {wx wy : World} {T M : Nat} {st : Int} {vB vS : Value} (h : TxW wx T M st vB vS) (hb : wy.heap[T]? = wx.heap[T]?) : TxW wy T M st vB vS := by
  have hc : ∀ j, wy.cell? ⟨T, j, none⟩ = wx.cell? ⟨T, j, none⟩ := fun j => World.cell?_of_block (a := ⟨T, j, none⟩) hb
  have hf : ∀ j, wy.frozen? ⟨T, j, none⟩ = wx.frozen? ⟨T, j, none⟩ := fun j => World.frozen?_of_block (a := ⟨T, j, none⟩) hb
  obtain ⟨h0, h3, h4, h5, h13, hz⟩ := h
  exact ⟨(hc 0).trans h0, (hc 3).trans h3, (hc 4).trans h4, (hc 5).trans h5, (hc 13).trans h13, fun j => (hf j).trans (hz j)⟩
theorem TxW.set3 {wx : World} {T M : Nat} {st : Int} {vB vS : Value} (h : TxW wx T M st vB vS) (v : Value) : TxW (wx.setCell ⟨T, 3, none⟩ v) T M st v vS := by
  obtain ⟨h0, h3, h4, h5, h13, hz⟩ := h
  refine ⟨?_, World.cell?_setCell_same _ _ _ h3, ?_, ?_, ?_, fun j => (World.frozen?_setCell _ _ _ _).trans (hz j)⟩
  · rw [World.cell?_setCell_other _ _ _ _ (by simp)]; exact h0
  · rw [World.cell?_setCell_other _ _ _ _ (by simp)]; exact h4
  · rw [World.cell?_setCell_other _ _ _ _ (by simp)]; exact h5
  · rw [World.cell?_setCell_other _ _ _ _ (by simp)]; exact h13
theorem TxW.set4 {wx : World} {T M : Nat} {st : Int} {vB vS : Value} (h : TxW wx T M st vB vS) (v : Value) : TxW (wx.setCell ⟨T, 4, none⟩ v) T M st vB v := by
  obtain ⟨h0, h3, h4, h5, h13, hz⟩ := h
  refine ⟨?_, ?_, World.cell?_setCell_same _ _ _ h4, ?_, ?_, fun j => (World.frozen?_setCell _ _ _ _).trans (hz j)⟩
  · rw [World.cell?_setCell_other _ _ _ _ (by simp)]; exact h0
  · rw [World.cell?_setCell_other _ _ _ _ (by simp)]; exact h3
  · rw [World.cell?_setCell_other _ _ _ _ (by simp)]; exact h5
  · rw [World.cell?_setCell_other _ _ _ _ (by simp)]; exact h13
theorem TxW.set12 {wx : World} {T M : Nat} {st : Int} {vB vS : Value} (h : TxW wx T M st vB vS) (i : Nat) (hi : i = 12 ∨ i = 21) (v : Value) : TxW (wx.setCell ⟨T, i, none⟩ v) T M st vB vS := by
  obtain ⟨h0, h3, h4, h5, h13, hz⟩ := h
  refine ⟨?_, ?_, ?_, ?_, ?_, fun j => (World.frozen?_setCell _ _ _ _).trans (hz j)⟩
  · rw [World.cell?_setCell_other _ _ _ _ (by rcases hi with rfl | rfl <;> simp)]; exact h0
  · rw [World.cell?_setCell_other _ _ _ _ (by rcases hi with rfl | rfl <;> simp)]; exact h3
  · rw [World.cell?_setCell_other _ _ _ _ (by rcases hi with rfl | rfl <;> simp)]; exact h4
  · rw [World.cell?_setCell_other _ _ _ _ (by rcases hi with rfl | rfl <;> simp)]; exact h5
  · rw [World.cell?_setCell_other _ _ _ _ (by rcases hi with rfl | rfl <;> simp)]; exact h13

/-- What holds ahead of the first loop. -/
def P1 (w wx : World) (st : Int) : Prop := TxW wx (w.heap.size + 1) w.heap.size st (.slice none 0 0) (.slice none 0 0) ∧ (∃ v, wx.cell? ⟨w.heap.size + 1, 12, none⟩ = some v) ∧ Owns wx w.heap.size 0 (.map []) ∧ Below w.heap.size w wx ∧ w.heap.size + 2 ≤ wx.heap.size
theorem cell_blk {wx : World} {T : Nat} {cs : Array Value} (h : wx.heap[T]? = some (.cells cs 61 (0, 0))) (j : Nat) : wx.cell? ⟨T, j, none⟩ = cs[j]? := by simp [World.cell?, h]
theorem p1_start (w : World) (st : Int) (cs : Array Value) (v12 : Value)
    (h0 : cs[0]? = some (.int .i64 st)) (h3 : cs[3]? = some (.slice none 0 0)) (h4 : cs[4]? = some (.slice none 0 0)) (h5 : cs[5]? = some (.map (some w.heap.size))) (h12 : cs[12]? = some v12) (h13 : cs[13]? = some (.int .i64 0)) :
    P1 w ((w.alloc (.map #[] 0)).alloc (.cells cs 61)) st := by
  have hb : ((w.alloc (.map #[] 0)).alloc (.cells cs 61)).heap[w.heap.size + 1]? = some (.cells cs 61 (0, 0)) := by
    have e := (MapKept.heap_alloc (w.alloc (.map #[] 0)) (.cells cs 61)).1
    rw [World.size_alloc] at e
    exact e
  refine ⟨txw_block hb h0 h3 h4 h5 h13, ⟨v12, (cell_blk hb 12).trans h12⟩, World.ownsMap.alloc (World.ownsMap_made w Try.prog 70 (plainElem Try.prog 4)) _, ((Below.refl _ _).alloc (Nat.le_refl _) _).alloc (by simp) _, by simp⟩
theorem P1.alloc {w wx : World} {st : Int} (h : P1 w wx st) (o : Obj) : P1 w (wx.alloc o) st := by
  obtain ⟨h1, ⟨v, h2⟩, h3, h4, h5⟩ := h
  have e : (wx.alloc o).heap[w.heap.size + 1]? = wx.heap[w.heap.size + 1]? := Below.heap_alloc _ _ _ (by omega)
  exact ⟨h1.keep e, ⟨v, (World.cell?_of_block (a := ⟨w.heap.size + 1, 12, none⟩) e).trans h2⟩, World.ownsMap.alloc h3 o, h4.alloc (by omega) o, by simp; omega⟩
theorem owns_set {wx : World} {M n T i : Nat} {D : DataW Unit} {v : Value} (h : Owns wx M n D) (hne : M ≠ T) : Owns (wx.setCell ⟨T, i, none⟩ v) M n D := by
  obtain ⟨es, clock, hh, r⟩ := h
  exact ⟨es, clock, (Below.heap_setCell _ _ _ _ (by exact hne)).trans hh, r⟩
theorem P1.set12 {w wx : World} {st : Int} (h : P1 w wx st) (v : Value) : P1 w (wx.setCell ⟨w.heap.size + 1, 12, none⟩ v) st := by
  obtain ⟨h1, ⟨v', h2⟩, h3, h4, h5⟩ := h
  exact ⟨h1.set12 12 (Or.inl rfl) v, ⟨v, World.cell?_setCell_same _ _ _ h2⟩, owns_set h3 (by omega), h4.setCell (by show w.heap.size ≤ w.heap.size + 1; omega) v, by simpa [World.setCell] using h5⟩
theorem alloc_cell {w : World} {b j : Nat} {v : Value} (h : w.cell? ⟨b, j, none⟩ = some v) (o : Obj) : (w.alloc o).cell? ⟨b, j, none⟩ = some v := by
  have := blk_of_cell h
  rw [World.cell?_alloc_old _ _ _ (by show b ≠ w.heap.size; omega)]; exact h
theorem alloc_frozen {w : World} {b j : Nat} (hb : b < w.heap.size) (h : w.frozen? ⟨b, j, none⟩ = false) (o : Obj) : (w.alloc o).frozen? ⟨b, j, none⟩ = false := by
  rw [World.frozen?_alloc_old _ _ _ (by show b ≠ w.heap.size; omega)]; exact h

/-- What holds in the first loop, after k rounds. -/
def L1 (w wr : World) (st : Int) (k : Nat) (vB : Value) (fin : List Bool) : Prop :=
  TxW wr (w.heap.size + 1) w.heap.size st vB (.slice none 0 0) ∧ wr.ownsRow (w.heap.size + 2) 68 3 vB k (brCs (fin.take k)) ∧ Owns wr w.heap.size 0 (.map []) ∧ Below w.heap.size w wr ∧ w.heap.size + 2 ≤ wr.heap.size
theorem own_ne {w : World} {base e n g : Nat} {v : Value} {xs : List Value} (h : w.ownsRow base e 3 v n xs) (hg : g < base) : some g ≠ v.ownBlock := fun e => by
  have := (h.lt g e.symm).1
  omega
theorem brCs_snoc (fin : List Bool) (k : Nat) (h : k < fin.length) : brCs (fin.take (k + 1)) = brCs (fin.take k) ++ [.string ByteArray.empty, .bool false, .bool (fin.getD k false)] := by
  unfold brCs
  rw [List.take_succ_eq_append_getElem h, List.flatMap_append, List.getD_eq_getElem?_getD, List.getElem?_eq_getElem h]
  simp [brC]
/-- The transaction's block, behind the append. -/
theorem L1.block {w wr w1 : World} {st : Int} {k : Nat} {vB : Value} {fin : List Bool} {o : Obj} (h : L1 w wr st k vB fin) (hg : ((wr.alloc o).drew).grownBy w1 vB.ownBlock) : w1.heap[w.heap.size + 1]? = wr.heap[w.heap.size + 1]? := by
  obtain ⟨_, h2, _, _, h5⟩ := h
  have e1 := hg.block (w.heap.size + 1) (by show _ < (wr.alloc o).heap.size; simp; omega) (own_ne h2 (by omega))
  exact e1.trans (Below.heap_alloc _ _ _ (by omega))
theorem L1.step {w wr w1 : World} {st : Int} {k : Nat} {vB v' : Value} {fin : List Bool} {o : Obj} (h : L1 w wr st k vB fin) (hk : k < fin.length) (hg : ((wr.alloc o).drew).grownBy w1 vB.ownBlock)
    (hown : w1.ownsRow (w.heap.size + 2) 68 3 v' (k + 1) (brCs (fin.take k) ++ [.string ByteArray.empty, .bool false, .bool (fin.getD k false)])) : L1 w (w1.setCell ⟨w.heap.size + 1, 3, none⟩ v') st (k + 1) v' fin := by
  have hb := h.block hg
  obtain ⟨h1, h2, h3, h4, h5⟩ := h
  have hs : w.heap.size + 2 ≤ w1.heap.size := by have := hg.size; have e : ((wr.alloc o).drew).heap.size = wr.heap.size + 1 := World.size_alloc _ _; omega
  refine ⟨(h1.keep hb).set3 v', ?_, ?_, ?_, by simpa [World.setCell] using hs⟩
  · rw [brCs_snoc fin k hk]
    exact ownsRow_setCell_below hown (by show w.heap.size + 1 < w.heap.size + 2; omega) _
  · exact owns_set (World.ownsMap.kept (World.ownsMap.drew (World.ownsMap.alloc h3 o)) hg (own_ne h2 (by omega))) (by omega)
  · exact (((h4.alloc (by omega) o).drew).grown hg (by show _ ≤ (wr.alloc o).heap.size; simp; omega) (fun j hj => by have := (h2.lt j hj).1; omega)).setCell (by show _ ≤ _ + 1; omega) _
theorem Try.info68 : (Try.prog.info? 68).map (fun i => (i.zero, i.size, i.bytes)) = some (some (.agg #[.string ⟨#[]⟩, .bool false, .bool false]), 3, 24) := by kernel_rfl
theorem three_new (w : World) (T : Nat) (x y z : Value) : ∀ j u, [x, y, z][j]? = some u → (w.alloc (.cells #[x, y, z] T)).drew.cell? ((⟨w.heap.size, 0, none⟩ : Addr).add j) = some u := by
  intro j u hu
  have e : (⟨w.heap.size, 0, none⟩ : Addr).add j = ⟨w.heap.size, j, none⟩ := by simp [Addr.add]; omega
  have e2 := World.cell?_alloc_new w #[x, y, z] T j
  rw [e]
  show (w.alloc (.cells #[x, y, z] T)).cell? ⟨w.heap.size, j, none⟩ = some u
  rw [e2]
  match j, hu with
  | 0, hu => simpa using hu
  | 1, hu => simpa using hu
  | 2, hu => simpa using hu

abbrev noSub : Sub := (ByteArray.empty, ByteArray.empty, ByteArray.empty)
/-- What holds in the second loop, after k rounds. -/
def L2 (w wr : World) (st : Int) (B2 k : Nat) (vB vS : Value) (fin told : List Bool) (subs : List Sub) : Prop :=
  TxW wr (w.heap.size + 1) w.heap.size st vB vS ∧ wr.ownsRow (w.heap.size + 2) 68 3 vB fin.length (brCs fin) ∧ wr.ownsRow B2 70 3 vS k (rCs (subs.take k)) ∧ Owns wr w.heap.size k (DTo subs told k) ∧ Below w.heap.size w wr ∧ B2 ≤ wr.heap.size ∧ w.heap.size + 2 ≤ B2 ∧ ∀ g, vB.ownBlock = some g → g < B2
/-- .. and in the midst of a round, behind the append. -/
def L2m (w wx : World) (st : Int) (B2 k X : Nat) (vB vS : Value) (fin told : List Bool) (subs : List Sub) (s : Sub) : Prop :=
  TxW wx (w.heap.size + 1) w.heap.size st vB vS ∧ wx.ownsRow (w.heap.size + 2) 68 3 vB fin.length (brCs fin) ∧ wx.ownsRow B2 70 3 vS (k + 1) (rCs (subs.take (k + 1))) ∧ Owns wx w.heap.size k (DTo subs told k) ∧ Below w.heap.size w wx ∧ B2 ≤ wx.heap.size ∧ w.heap.size + 2 ≤ B2 ∧ (∀ g, vB.ownBlock = some g → g < B2) ∧
  wx.cell? ⟨X, 0, none⟩ = some (.string s.1) ∧ wx.cell? ⟨X, 1, none⟩ = some (.string s.2.1) ∧ wx.cell? ⟨X, 2, none⟩ = some (.string s.2.2)
theorem L2.start {w wr : World} {st : Int} {vB : Value} {fin told : List Bool} {subs : List Sub} (h : L1 w wr st fin.length vB fin) : L2 w wr st wr.heap.size 0 vB (.slice none 0 0) fin told subs := by
  obtain ⟨h1, h2, h3, h4, h5⟩ := h
  rw [List.take_of_length_le (Nat.le_refl _)] at h2
  exact ⟨h1, h2, World.ownsRow_nil _ _ _ _, h3, h4, Nat.le_refl _, h5, fun g hg => (h2.lt g hg).2⟩
theorem rCs_snoc (subs : List Sub) (k : Nat) (h : k < subs.length) : rCs (subs.take (k + 1)) = rCs (subs.take k) ++ [.string (subs.getD k noSub).1, .string (subs.getD k noSub).2.1, .string (subs.getD k noSub).2.2] := by
  unfold rCs
  rw [List.take_succ_eq_append_getElem h, List.flatMap_append, List.getD_eq_getElem?_getD, List.getElem?_eq_getElem h]
  simp [rC]
/-- A row of the call's own stays while another block's cell is written. -/
theorem row_set {w : World} {base e n T i : Nat} {v : Value} {xs : List Value} (h : w.ownsRow base e 3 v n xs) (hT : T < base) (u : Value) : (w.setCell ⟨T, i, none⟩ u).ownsRow base e 3 v n xs := ownsRow_setCell_below h hT u
theorem L2.blocks {w wr w1 : World} {st : Int} {B2 k : Nat} {vB vS : Value} {fin told : List Bool} {subs : List Sub} {A B : Obj} (h : L2 w wr st B2 k vB vS fin told subs) (hg : (((wr.alloc A).alloc B).drew.drew).grownBy w1 vS.ownBlock) :
    ∀ j, j ≤ wr.heap.size → (j < B2 ∨ j = wr.heap.size) → w1.heap[j]? = ((wr.alloc A).alloc B).heap[j]? := by
  obtain ⟨_, _, h3, _⟩ := h
  intro j hj hc
  refine hg.block j (by show j < ((wr.alloc A).alloc B).heap.size; simp; omega) (fun e => ?_)
  have := h3.lt j e.symm
  omega
theorem L2.old {w wr w1 : World} {st : Int} {B2 k : Nat} {vB vS : Value} {fin told : List Bool} {subs : List Sub} {A B : Obj} (h : L2 w wr st B2 k vB vS fin told subs) (hg : (((wr.alloc A).alloc B).drew.drew).grownBy w1 vS.ownBlock) (j : Nat) (hj : j < B2) : w1.heap[j]? = wr.heap[j]? := by
  have hB : B2 ≤ wr.heap.size := h.2.2.2.2.2.1
  rw [h.blocks hg j (by omega) (Or.inl hj), Below.heap_alloc _ _ _ (by simp; omega), Below.heap_alloc _ _ _ (by omega)]
theorem L2.step {w wr w1 : World} {st : Int} {B2 k : Nat} {vB vS v' : Value} {fin told : List Bool} {subs : List Sub} {B : Obj} {s : Sub} (h : L2 w wr st B2 k vB vS fin told subs) (hk : k < subs.length) (hs : subs.getD k noSub = s)
    (hg : (((wr.alloc (.cells #[.string s.1, .string s.2.1, .string s.2.2] 70)).alloc B).drew.drew).grownBy w1 vS.ownBlock)
    (hown : w1.ownsRow B2 70 3 v' (k + 1) (rCs (subs.take k) ++ [.string s.1, .string s.2.1, .string s.2.2])) :
    L2m w (w1.setCell ⟨w.heap.size + 1, 4, none⟩ v') st B2 k wr.heap.size vB v' fin told subs s := by
  have hold := h.old hg
  have hx := h.blocks hg wr.heap.size (Nat.le_refl _) (Or.inr rfl)
  obtain ⟨h1, h2, h3, h4, h5, h6, h7, h8⟩ := h
  have hsz : wr.heap.size ≤ w1.heap.size := by
    have h0 := hg.size
    have e : ((((wr.alloc (.cells #[.string s.1, .string s.2.1, .string s.2.2] 70)).alloc B).drew.drew)).heap.size = wr.heap.size + 1 + 1 := by
      show ((wr.alloc _).alloc B).heap.size = _
      simp
    omega
  have hx' : w1.heap[wr.heap.size]? = some (.cells #[.string s.1, .string s.2.1, .string s.2.2] 70) := by
    rw [hx, Below.heap_alloc _ _ _ (by simp)]
    exact (MapKept.heap_alloc wr _).1
  have hcell : ∀ j, (w1.setCell ⟨w.heap.size + 1, 4, none⟩ v').cell? ⟨wr.heap.size, j, none⟩ = (#[Value.string s.1, .string s.2.1, .string s.2.2] : Array Value)[j]? := fun j => by
    rw [World.cell?_setCell_other _ _ _ _ (by first | (simp; done) | (simp; omega))]
    simp [World.cell?, hx']
  refine ⟨(h1.keep (hold _ (by omega))).set4 v', ?_, ?_, ?_, ?_, by simp [World.setCell]; omega, h7, h8, hcell 0, hcell 1, hcell 2⟩
  · obtain ⟨ha, hb⟩ := h2
    refine row_set ⟨ha, ?_⟩ (by omega) _
    rcases hb with hb | ⟨g, cap, cur, hv, hg1, hg2, r⟩
    · exact Or.inl hb
    · exact Or.inr ⟨g, cap, cur, hv, hg1, (hold g (h8 g (by rw [hv]; rfl))).trans hg2, r⟩
  · rw [rCs_snoc subs k hk, hs]
    exact row_set hown (by omega) _
  · obtain ⟨es, clock, hh, r⟩ := h4
    exact owns_set ⟨es, clock, (hold _ (by omega)).trans hh, r⟩ (by omega)
  · refine Below.setCell ?_ (by show _ ≤ _ + 1; omega) _
    exact ((((h5.alloc (by omega) _).alloc (by simp; omega) B).drew).drew).grown hg (by show _ ≤ ((wr.alloc _).alloc B).heap.size; simp; omega) (fun j hj => by have := (h3.lt j hj).1; omega)
theorem L2m.no {w wx : World} {st : Int} {B2 k X : Nat} {vB vS : Value} {fin told : List Bool} {subs : List Sub} {s : Sub} (h : L2m w wx st B2 k X vB vS fin told subs s) (ht : told.getD k false = false) : L2 w wx st B2 (k + 1) vB vS fin told subs := by
  obtain ⟨h1, h2, h3, h4, h5, h6, h7, h8, _⟩ := h
  refine ⟨h1, h2, h3, ?_, h5, h6, h7, h8⟩
  have e : DTo subs told (k + 1) = DTo subs told k := by show (if _ then _ else _) = _; rw [ht]; rfl
  rw [e]
  exact World.ownsMap.mono h4 (Nat.le_succ k)
theorem L2m.yes {w wx w' : World} {st : Int} {B2 k X : Nat} {vB vS : Value} {fin told : List Bool} {subs : List Sub} {s : Sub} (h : L2m w wx st B2 k X vB vS fin told subs s) (ht : told.getD k false = true) (hs : subs.getD k noSub = s)
    (hown : Owns w' w.heap.size (k + 1) ((DTo subs told k).put (keyL s) (.lit (.bool true)))) (hg : wx.drew.grownBy w' (some w.heap.size)) : L2 w w' st B2 (k + 1) vB vS fin told subs := by
  obtain ⟨h1, h2, h3, h4, h5, h6, h7, h8, _⟩ := h
  have hg' : wx.grownBy w' (some w.heap.size) := ⟨hg.os, hg.tape, hg.output, hg.size, hg.block⟩
  have hne : ∀ {base e n : Nat} {v : Value} {xs : List Value}, w.heap.size < base → wx.ownsRow base e 3 v n xs → w'.ownsRow base e 3 v n xs := fun hb ho => ho.kept hg' (by
    cases hv : Value.ownBlock _ with
    | none => exact Or.inl rfl
    | some g => exact Or.inr (fun e => by cases e; have := (ho.lt _ hv).1; omega))
  refine ⟨h1.keep (hg'.block _ (by omega) (by simp)), hne (by omega) h2, hne (by omega) h3, ?_, h5.grown hg' (by omega) (fun j hj => by cases hj; exact Nat.le_refl _), Nat.le_trans h6 hg'.size, h7, h8⟩
  have e : DTo subs told (k + 1) = (DTo subs told k).put (keyL s) (.lit (.bool true)) := by show (if _ then _ else _) = _; rw [ht, if_pos rfl]; rw [show subs.getD k (ByteArray.empty, ByteArray.empty, ByteArray.empty) = s from hs]
  rw [e]
  exact hown
theorem Try.info70 : (Try.prog.info? 70).map (fun i => (i.zero, i.size, i.bytes)) = some (some (.agg #[.string ⟨#[]⟩, .string ⟨#[]⟩, .string ⟨#[]⟩]), 3, 48) := by kernel_rfl
end Go.Proofs.Qxb6615484a
