import Derived.Test.Qxb6615098aDoorRows
import Derived.Test.Qxb6615098aDoorEvent
import Derived.Deep.RegionLaw
namespace Go.Proofs.Qxb6615098aDoor
open Go.RowKit Go.Lib

theorem Tryd.info5 : (Tryd.prog.info? 5).map (fun i => (i.zero, i.size, i.bytes)) = some (some (.int .u8 0), 1, 1) := by kernel_rfl
def bcells (l : List UInt8) : List Value := l.map fun b => Value.int .u8 (b.toNat : Int)

/-- append within the capacity of a row of the call's own, as one step of a region that draws. -/
theorem step_append_fits {P : Program} {ops : Array Oper} {o : Oper} {a : Act} {w : World} {K : Act → World → Prop} {Q : Exit → Act → World → Prop} {E : Prop}
    (hg : o.guard = none) (s x : Operand) (t : TypeId) (hop : o.op = Op.call { callee := Callee.builtin Builtin.append, args := #[s, x], argTypes := #[t, t] })
    (base : Nat) (e : TypeId) (i : TypeInfo) (size : Nat) (h1 : P.underlying t = some (.slice e)) (h2 : P.info? e = some i) (h4 : i.size = size)
    (g k cap : Nat) (xs : List Value) (hs : a.eval s = .slice (some ⟨g, 0, none⟩) k cap) (hown : w.ownsRow base e size (.slice (some ⟨g, 0, none⟩) k cap) k xs) (ad : Addr) (m c : Nat) (news : List Value) (hx : a.eval x = .slice (some ad) m c) (hn : news.length = m * size)
    (hc : ∀ j u, news[j]? = some u → w.cell? (ad.add j) = some u) (h1c : ∀ u ∈ news, u.oneCell' = true) (b1 : k + m ≤ cap)
    (hK : ∀ w', w'.ownsRow base e size (.slice (some ⟨g, 0, none⟩) (k + m) cap) (k + m) (xs ++ news) → w.grownBy w' (some g) → K (a.put o.dst (.slice (some ⟨g, 0, none⟩) (k + m) cap)) w') :
    if Region.wanted o (yielded ops a.tmps) = true then Oper.wp P o a w K Q else E := by
  have hw : Region.wanted o (yielded ops a.tmps) = true := by simp [Region.wanted, hg]
  rw [if_pos hw]
  obtain ⟨w', hrun, r1, r2⟩ := run_append_fits (P := P) w base t o.type e i size h1 h2 h4 g k cap xs hown ad m c news hn hc h1c b1
  unfold Oper.wp
  simp [execOp, hop, resolve, invoke, builtin, hs, hx, hrun, Result.andThen]
  exact hK w' r1 r2

/-- The tag's byte at a place. -/
def tagAt (b0 b1 b2 b3 b4 b5 b6 b7 : UInt8) (k : Nat) : UInt8 := [b0, b1, b2, b3, b4, b5, b6, b7].getD k 0
theorem tagAt_at (b0 b1 b2 b3 b4 b5 b6 b7 : UInt8) (i : Nat) (h : i < 8) : (tagC b0 b1 b2 b3 b4 b5 b6 b7)[i]? = some (.int .u8 ((tagAt b0 b1 b2 b3 b4 b5 b6 b7 i).toNat : Int)) := by
  have e := tagC_at b0 b1 b2 b3 b4 b5 b6 b7 i h
  unfold tagAt
  rw [e, List.getD_eq_getElem?_getD, List.getElem?_eq_getElem (show i < [b0, b1, b2, b3, b4, b5, b6, b7].length from h)]
  rfl
theorem idx_tab (z : Int) (i : Nat) (hz : z = (i : Int)) (hi : i < 16) (W : World) : (Instr.index 9 (.string ⟨#[48, 49, 50, 51, 52, 53, 54, 55, 56, 57, 97, 98, 99, 100, 101, 102]⟩) (.int .u8 z)).run Tryd.prog W = .ok (.int .u8 ((Hx.digit i).toNat : Int)) W := by
  subst hz
  rw [show (⟨#[48, 49, 50, 51, 52, 53, 54, 55, 56, 57, 97, 98, 99, 100, 101, 102]⟩ : ByteArray) = Hx.tab from rfl, run_index_string W 9 Hx.tab .u8 _ Tryd.underlying9, dif_pos ⟨by omega, by show (i : Int) < 16; omega⟩]
  have e : ((i : Int)).toNat = i := by omega
  simp only [e]
  have h : i < Hx.tab.data.toList.length := hi
  have e2 : Hx.digit i = Hx.tab.data.toList[i]'h := by
    unfold Hx.digit
    rw [List.getElem?_eq_getElem h]
    rfl
  rw [e2]
  rfl
theorem idx_hi (c : UInt8) (W : World) : (Instr.index 9 (.string ⟨#[48, 49, 50, 51, 52, 53, 54, 55, 56, 57, 97, 98, 99, 100, 101, 102]⟩) (.int .u8 ((c.toNat : Int) / 16))).run Tryd.prog W = .ok (.int .u8 ((Hx.digit (c.toNat / 16)).toNat : Int)) W :=
  idx_tab _ (c.toNat / 16) (by omega) (by have := c.toNat_lt; omega) W
theorem and15 : ∀ c : Fin 256, bits .and .u8 (c.val : Int) 15 = ((c.val % 16 : Nat) : Int) := by decide +kernel
theorem idx_lo (c : UInt8) (W : World) : (Instr.index 9 (.string ⟨#[48, 49, 50, 51, 52, 53, 54, 55, 56, 57, 97, 98, 99, 100, 101, 102]⟩) (.int .u8 (bits .and .u8 (c.toNat : Int) 15))).run Tryd.prog W = .ok (.int .u8 ((Hx.digit (c.toNat % 16)).toNat : Int)) W :=
  idx_tab _ (c.toNat % 16) (and15 ⟨c.toNat, c.toNat_lt⟩) (by omega) W
/-- The head, as far as it is written. -/
def headTo (T : List UInt8) (k : Nat) : List UInt8 := [101, 118, 116, 95] ++ Hx.encode (T.take k)

def headL (T : List UInt8) : List UInt8 := headTo T 8 ++ [95]
theorem headTo_succ (T : List UInt8) (k : Nat) (h : k < T.length) : headTo T (k + 1) = headTo T k ++ [Hx.digit ((T.getD k 0).toNat / 16), Hx.digit ((T.getD k 0).toNat % 16)] := by
  unfold headTo
  rw [List.take_succ_eq_append_getElem h, List.append_assoc]
  congr 1
  unfold Hx.encode
  rw [List.flatMap_append, List.getD_eq_getElem?_getD, List.getElem?_eq_getElem h]
  simp
theorem bcells_two (l : List UInt8) (x y : UInt8) : bcells (l ++ [x, y]) = bcells l ++ [Value.int .u8 (x.toNat : Int), Value.int .u8 (y.toNat : Int)] := by unfold bcells; simp

theorem two_new (w : World) (x y : Value) : ∀ j u, [x, y][j]? = some u → (w.drew.alloc (.cells #[x, y] 5)).cell? ((⟨w.heap.size, 0, none⟩ : Addr).add j) = some u := by
  intro j u hu
  rw [Lib.add_plain, Nat.zero_add]
  have e := World.cell?_alloc_new w.drew #[x, y] 5 j
  rw [show w.drew.heap.size = w.heap.size from rfl] at e
  rw [e]
  match j, hu with
  | 0, hu => simpa using hu
  | 1, hu => simpa using hu

set_option maxHeartbeats 800000 in
theorem zzHead_any (b0 b1 b2 b3 b4 b5 b6 b7 : UInt8) (w : World) :
    Calls Tryd.prog 6 #[tagV b0 b1 b2 b3 b4 b5 b6 b7] w fun e w' => e = .returned (.string (headB [b0, b1, b2, b3, b4, b5, b6, b7])) ∧ Below w.heap.size w w' := by
  obtain ⟨i0, hi, hz0, hz1, hz2⟩ := info_parts Tryd.info5
  go_enter Tryd.func6, Tryd.ntmps6
  go_wp2_with (at_make; refine wpList_make_own _ rfl _ _ 31 rfl (w.heap.size + 1) 5 i0 (.int .u8 0) 1 Tryd.underlying31 hi hz0 hz1 _ _ _ 21 rfl rfl rfl ?b2 ?b3 ?b4 ?_)
  case b2 => rw [hz2]; omega
  case b3 => unfold maxLen; omega
  case b4 => simp
  intro w0 hown0 hgrow0
  go_wp2_with (at_builtin; refine wpList_append_fits _ rfl (.tmp 6) (.tmp 7) 31 rfl (w.heap.size + 1) 5 i0 1 Tryd.underlying31 hi hz1 (w.heap.size + 1) 0 21 _ rfl (hown0.alloc _) ⟨w0.heap.size, 0, none⟩ 4 4 [.int .u8 101, .int .u8 118, .int .u8 116, .int .u8 95] rfl rfl (by intro t u ht; match t, ht with | 0, ht => simp at ht; subst ht; simp [Addr.add] | 1, ht => simp at ht; subst ht; simp [Addr.add] | 2, ht => simp at ht; subst ht; simp [Addr.add] | 3, ht => simp at ht; subst ht; simp [Addr.add]) (by intro u hu; simp at hu; rcases hu with rfl | rfl | rfl | rfl <;> rfl) (by omega) ?_; intro w1 hown1 hgrow1)
  have hbel1 : Below (w.heap.size + 1) (w.alloc (.cells (tagC b0 b1 b2 b3 b4 b5 b6 b7) 22)) w1 :=
    (((Below.refl _ _).grown hgrow0 (by simp) (fun k h => by cases h)).alloc (by have := hgrow0.size; simp at this; omega) _).grown hgrow1 (by have := hgrow0.size; simp at this; simp; omega) (fun k h => by cases h; exact Nat.le_refl _)
  clear hgrow0 hgrow1 hown0
  go_loopw [3, 4] (fun out si wr => ∃ (k : Nat), k ≤ 8 ∧ si = .int .i64 k ∧ out = .slice (some ⟨w.heap.size + 1, 0, none⟩) (4 + 2 * k) 21 ∧
      wr.ownsRow (w.heap.size + 1) 5 1 (.slice (some ⟨w.heap.size + 1, 0, none⟩) (4 + 2 * k) 21) (4 + 2 * k) (bcells (headTo [b0, b1, b2, b3, b4, b5, b6, b7] k)) ∧ Below (w.heap.size + 1) (w.alloc (.cells (tagC b0 b1 b2 b3 b4 b5 b6 b7) 22)) wr)
    (fun _ si _ => 8 - (RowKit.intOf si).toNat)
  case atStart => exact ⟨0, Nat.zero_le _, rfl, rfl, hown1, hbel1⟩
  case round =>
    clear hown1 hbel1
    obtain ⟨k, hk, rfl, rfl, hown, hbel⟩ := hrel
    by_cases hlt : k < 8
    · have hcell : wr.cell? ⟨w.heap.size, k, none⟩ = some (.int .u8 ((tagAt b0 b1 b2 b3 b4 b5 b6 b7 k).toNat : Int)) := by
        rw [hbel.cell (by simp), World.cell?_alloc_new]
        exact tagAt_at b0 b1 b2 b3 b4 b5 b6 b7 k hlt
      have hsz : w.heap.size + 1 ≤ wr.heap.size := by have := hbel.size; simpa using this
      have HT := Lib.hid (headTo_succ [b0, b1, b2, b3, b4, b5, b6, b7] k hlt)
      rw [show [b0, b1, b2, b3, b4, b5, b6, b7].getD k 0 = tagAt b0 b1 b2 b3 b4 b5 b6 b7 k from rfl] at HT
      generalize tagAt b0 b1 b2 b3 b4 b5 b6 b7 k = c at *
      have hc256 := c.toNat_lt
      have hx1 := fun W => idx_hi c W
      have hx2 := fun W => idx_lo c W
      go_wp2
      go_region_law (refine step_append_fits rfl (.tmp 13) (.tmp 24) 31 rfl (w.heap.size + 1) 5 i0 1 Tryd.underlying31 hi hz1 (w.heap.size + 1) (4 + 2 * k) 21 _ rfl ((hown.drew).alloc _) ⟨wr.heap.size, 0, none⟩ 2 2 [.int .u8 ((Hx.digit (c.toNat / 16)).toNat : Int), .int .u8 ((Hx.digit (c.toNat % 16)).toNat : Int)] rfl rfl (two_new wr _ _) (by intro u hu; simp at hu; rcases hu with rfl | rfl <;> rfl) (by omega) ?_; intro w2 hown2 hgrow2)
      all_goals go_wp2
      all_goals
        go_roundw
        case rel =>
          refine ⟨k + 1, by omega, by go_num, by rw [show 4 + 2 * (k + 1) = 4 + 2 * k + 2 by omega], ?_, ?_⟩
          · rw [show 4 + 2 * (k + 1) = 4 + 2 * k + 2 by omega, HT.out, bcells_two]
            exact hown2
          · exact ((hbel.drew).alloc hsz _).grown hgrow2 (by simp; omega) (fun k hk => by cases hk; exact Nat.le_refl _)
        case measure => simp [RowKit.intOf]; omega
    · obtain rfl : k = 8 := by omega
      have hsz : w.heap.size + 1 ≤ wr.heap.size := by have := hbel.size; simpa using this
      have hcv : ∀ W : World, W.ownsRow (w.heap.size + 1) 5 1 (.slice (some ⟨w.heap.size + 1, 0, none⟩) 21 21) 21 (bcells (headL [b0, b1, b2, b3, b4, b5, b6, b7])) → (convert 31 9 (.slice (some ⟨w.heap.size + 1, 0, none⟩) 21 21)).run Tryd.prog W = .ok (.string (headB [b0, b1, b2, b3, b4, b5, b6, b7])) W := fun W ho =>
        run_convert_bytes_back (P := Tryd.prog) W 31 9 5 ⟨w.heap.size + 1, 0, none⟩ 21 (headL [b0, b1, b2, b3, b4, b5, b6, b7]) Tryd.underlying31 Tryd.underlying5 Tryd.underlying9 (fun j hj => by
          have h := ho.cellAt j (by have : (headL [b0, b1, b2, b3, b4, b5, b6, b7]).length = 21 := rfl; omega)
          rw [Lib.add_plain, Nat.zero_add, h]
          unfold bcells
          simp [hj])
      have HCV := Lib.hid hcv
      clear hcv
      go_wp2_with (at_builtin; refine wpList_append_fits _ rfl (.tmp 26) (.tmp 27) 31 rfl (w.heap.size + 1) 5 i0 1 Tryd.underlying31 hi hz1 (w.heap.size + 1) 20 21 _ rfl (hown.alloc _) ⟨wr.heap.size, 0, none⟩ 1 1 [.int .u8 95] rfl rfl (by intro t u ht; match t, ht with | 0, ht => simp at ht; subst ht; simp [Addr.add]) (by intro u hu; simp at hu; subst hu; rfl) (by omega) ?_; intro w2 hown2 hgrow2; have hcv2 := HCV.out w2 hown2)
      go_ret
      exact ⟨rfl, ((Below.refl _ _).alloc (Nat.le_refl _) _).trans (((hbel.alloc hsz _).grown hgrow2 (by simp; omega) (fun k hk => by cases hk; exact Nat.le_refl _)).mono (by omega))⟩
end Go.Proofs.Qxb6615098aDoor
