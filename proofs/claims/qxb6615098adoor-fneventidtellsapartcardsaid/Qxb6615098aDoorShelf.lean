import Derived.Ground.PaProg
import Derived.Shelf.Hex.Tagged
import Derived.Shelf.Strconv.Itoa0
import Derived.Shelf.Strconv.Itoa1
import Derived.Shelf.LaysM
import Derived.Shelf.Strconv.Itoa2
import Derived.Shelf.Hex.Lens
import Derived.Shelf.Hex.Encode
import Derived.Shelf.Hex.More
import Derived.Test.Qxb6615098aDoorRows
namespace Go.Proofs
open Go.Shelf
/-- The table's name, off the given row. -/
abbrev Tryd.tabName : String := Qxb6615098aDoor.Rows.fnEventIDDecimalTailRow.named.headD ""
def Tryd.lays283_ren : Go.Shelf.Ren := ⟨fun | 283 => 16 | n => n, fun | 3 => 3 | 9 => 9 | 4 => 4 | n => n, fun | n => n⟩
theorem Tryd.lays283 : Go.Proofs.Lays.n283 Tryd.prog Tryd.lays283_ren := {
  mixed := by kernel_rfl
  f283 := Tryd.func16.trans (congrArg some (by kernel_rfl))
  t3 := Tryd.underlying3
  a3 := Tryd.isAgg3
  z3 := Tryd.sizeOf3
  v3 := Tryd.zeroValue3
  t4 := Tryd.underlying4
  a4 := Tryd.isAgg4
  z4 := Tryd.sizeOf4
  v4 := Tryd.zeroValue4
  t9 := Tryd.underlying9
  a9 := Tryd.isAgg9
  z9 := Tryd.sizeOf9
  v9 := Tryd.zeroValue9 }
open Go.Lib in
theorem Tryd.internal_strconv_small (i : Nat) (h : i < 100) (w : World) :
    Calls Tryd.prog 16 #[.int .i64 i] w fun e w' => e = .returned (.string ⟨(Lib.decDigits i).toArray⟩) ∧ w' = w := Any.internal_strconv_small Tryd.lays283 i h w
def Tryd.laysM284_ren : Go.Shelf.Ren := ⟨fun | 284 => 17 | 129 => 21 | 317 => 20 | 318 => 22 | n => n, fun | 53 => 23 | 3 => 3 | 212 => 46 | 0 => 0 | 4 => 4 | 46 => 32 | 5 => 5 | 9 => 9 | n => n, fun | 17 => 0 | n => n⟩
theorem Tryd.laysM284 : Go.Proofs.LaysM.n284 Tryd.prog Tryd.laysM284_ren := {
  mixed := by kernel_rfl
  f129 := Tryd.func21.trans (congrArg some (by kernel_rfl))
  f284 := Tryd.func17.trans (congrArg some (by kernel_rfl))
  f317 := Tryd.func20.trans (congrArg some (by kernel_rfl))
  f318 := Tryd.func22.trans (congrArg some (by kernel_rfl))
  t0 := Tryd.underlying0
  a0 := Tryd.isAgg0
  z0 := Tryd.sizeOf0
  v0 := Tryd.zeroValue0
  t3 := Tryd.underlying3
  a3 := Tryd.isAgg3
  z3 := Tryd.sizeOf3
  v3 := Tryd.zeroValue3
  t4 := Tryd.underlying4
  a4 := Tryd.isAgg4
  z4 := Tryd.sizeOf4
  v4 := Tryd.zeroValue4
  t5 := Tryd.underlying5
  a5 := Tryd.isAgg5
  z5 := Tryd.sizeOf5
  v5 := Tryd.zeroValue5
  t9 := Tryd.underlying9
  a9 := Tryd.isAgg9
  z9 := Tryd.sizeOf9
  v9 := Tryd.zeroValue9
  t46 := Tryd.underlying32
  a46 := Tryd.isAgg32
  z46 := Tryd.sizeOf32
  v46 := Tryd.zeroValue32
  t53 := Tryd.underlying23
  a53 := Tryd.isAgg23
  z53 := Tryd.sizeOf23
  v53 := Tryd.zeroValue23
  t212 := Tryd.underlying46
  a212 := Tryd.isAgg46
  z212 := Tryd.sizeOf46
  v212 := Tryd.zeroValue46
  g17 := by kernel_rfl
  i0 := by kernel_rfl
  i3 := by kernel_rfl
  i4 := by kernel_rfl
  i5 := by kernel_rfl
  i9 := by kernel_rfl
  i46 := by kernel_rfl
  i53 := by kernel_rfl
  i212 := by kernel_rfl
  m17 := by kernel_rfl }
open Go.Lib in
theorem Tryd.internal_strconv_numDigits (u : Nat) (h1 : 1 ≤ u) (h2 : u < 18446744073709551616) (w : World) (htab : Lib.TabIs Tryd.prog w Tryd.tabName .u64 Lib.pow10Tab) :
    Calls Tryd.prog 17 #[.int .u64 u] w fun e w' => e = .returned (.int .i64 (Lib.nDigits u)) ∧ w' = w := Any.internal_strconv_numDigits Tryd.laysM284 u h1 h2 w htab
def Tryd.lays285_ren : Go.Shelf.Ren := ⟨fun | 285 => 18 | n => n, fun | 37 => 31 | 53 => 23 | 3 => 3 | 4 => 4 | 51 => 47 | 9 => 9 | 5 => 5 | 0 => 0 | n => n, fun | n => n⟩
theorem Tryd.lays285 : Go.Proofs.Lays.n285 Tryd.prog Tryd.lays285_ren := {
  mixed := by kernel_rfl
  f285 := Tryd.func18.trans (congrArg some (by kernel_rfl))
  t0 := Tryd.underlying0
  a0 := Tryd.isAgg0
  z0 := Tryd.sizeOf0
  v0 := Tryd.zeroValue0
  t3 := Tryd.underlying3
  a3 := Tryd.isAgg3
  z3 := Tryd.sizeOf3
  v3 := Tryd.zeroValue3
  t4 := Tryd.underlying4
  a4 := Tryd.isAgg4
  z4 := Tryd.sizeOf4
  v4 := Tryd.zeroValue4
  t5 := Tryd.underlying5
  a5 := Tryd.isAgg5
  z5 := Tryd.sizeOf5
  v5 := Tryd.zeroValue5
  t9 := Tryd.underlying9
  a9 := Tryd.isAgg9
  z9 := Tryd.sizeOf9
  v9 := Tryd.zeroValue9
  t37 := Tryd.underlying31
  a37 := Tryd.isAgg31
  z37 := Tryd.sizeOf31
  v37 := Tryd.zeroValue31
  t51 := Tryd.underlying47
  a51 := Tryd.isAgg47
  z51 := Tryd.sizeOf47
  v51 := Tryd.zeroValue47
  t53 := Tryd.underlying23
  a53 := Tryd.isAgg23
  z53 := Tryd.sizeOf23
  v53 := Tryd.zeroValue23 }
open Go.RowKit Go.Sort Go.Lib in
theorem Tryd.internal_strconv_formatBase10 (blk off cap : Nat) (u : Nat) (d : Array UInt8) (w : World) (hH : Holds (fun (b : UInt8) => Value.int .u8 (b.toNat : Int)) w blk off d) (hu : u < 10 ^ d.size) (hu64 : u < 18446744073709551616) (hsz : d.size < 4611686018427387904) :
    Calls Tryd.prog 18 #[.slice (some ⟨blk, off, none⟩) d.size cap, .int .u64 u] w fun e w' =>
      e = .returned (.tuple #[]) ∧ ∃ (n v' : Nat) (dk : Array UInt8), w' = (putRow (fun (b : UInt8) => Value.int .u8 (b.toNat : Int)) w blk off dk).drewN n ∧ FmtInv d.size u 0 v' dk := Any.internal_strconv_formatBase10 Tryd.lays285 blk off cap u d w hH hu hu64 hsz
def Tryd.laysPah39_ren : Go.Shelf.Ren := ⟨fun | 39 => 11 | 41 => 13 | 40 => 14 | n => n, fun | 30 => 31 | 9 => 9 | 3 => 3 | 0 => 0 | 5 => 5 | 46 => 32 | n => n, fun | n => n⟩
theorem Tryd.laysPah39 : Go.Proofs.Lays.ph39 Tryd.prog Tryd.laysPah39_ren := {
  mixed := by kernel_rfl
  f39 := Tryd.func11.trans (congrArg some (by kernel_rfl))
  f40 := Tryd.func14.trans (congrArg some (by kernel_rfl))
  f41 := Tryd.func13.trans (congrArg some (by kernel_rfl))
  t0 := Tryd.underlying0
  a0 := Tryd.isAgg0
  z0 := Tryd.sizeOf0
  v0 := Tryd.zeroValue0
  t3 := Tryd.underlying3
  a3 := Tryd.isAgg3
  z3 := Tryd.sizeOf3
  v3 := Tryd.zeroValue3
  t5 := Tryd.underlying5
  a5 := Tryd.isAgg5
  z5 := Tryd.sizeOf5
  v5 := Tryd.zeroValue5
  t9 := Tryd.underlying9
  a9 := Tryd.isAgg9
  z9 := Tryd.sizeOf9
  v9 := Tryd.zeroValue9
  t30 := Tryd.underlying31
  a30 := Tryd.isAgg31
  z30 := Tryd.sizeOf31
  v30 := Tryd.zeroValue31
  t46 := Tryd.underlying32
  a46 := Tryd.isAgg32
  z46 := Tryd.sizeOf32
  v46 := Tryd.zeroValue32
  info5 := by kernel_rfl }
open Go.RowKit Go.Lib in
theorem Tryd.hex_EncodeToString_bytes (bs os cs : Nat) (l : List UInt8) (w : World) (hsrc : ∀ i (h : i < l.length), w.cell? ⟨bs, os + i, none⟩ = some (.int .u8 ((l[i]'h).toNat : Int))) (hb : bs < w.heap.size) (hbig : 2 * l.length ≤ 281474976710656) :
    Calls Tryd.prog 11 #[.slice (some ⟨bs, os, none⟩) l.length cs] w fun e w' => e = .returned (.string ⟨(Hx.encode l).toArray⟩) ∧ Below w.heap.size w w' := Any.hex_EncodeToString_bytes Tryd.laysPah39 bs os cs l w hsrc hb hbig
end Go.Proofs
