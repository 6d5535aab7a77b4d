import Derived.Test.Qxb6615484aTxFacts
namespace Go.Proofs.Qxb6615484a
open Go.RowKit Go.Maps

def PairEnd (e : Ending) : Prop := ∃ (t : Int) (b : Bool), e = .returned (.tuple #[.int .i64 t, .bool b])
def BoolEnd (e : Ending) : Prop := ∃ b : Bool, e = .returned (.bool b)

set_option maxHeartbeats 800000 in
theorem strBytes_any (total : Int) (l : List ByteArray) (a : Option Addr) (c : Nat) (w : World) (hl : l.length ≤ 4096) (hA : At w a l.length (fun j => .string (l.getD j ByteArray.empty))) :
    Calls Try.prog 10 #[.int .i64 total, .slice a l.length c] w fun e w' => PairEnd e ∧ w' = w := by
  have HA := Lib.hid hA
  clear hA
  go_enter Try.func10, Try.ntmps10
  go_wp2
  go_loop [0, 6] (fun t i => ∃ (k : Nat) (z : Int), k ≤ l.length ∧ i = .int .i64 k ∧ t = .int .i64 z) (fun _ i => l.length - (RowKit.intOf i).toNat)
  case atStart => exact ⟨0, total, Nat.zero_le _, rfl, rfl⟩
  case round =>
    obtain ⟨k, z, hk, rfl, rfl⟩ := hrel
    by_cases hlt : k < l.length
    · obtain ⟨b, o, rfl, hb, hc⟩ := HA.out.resolve_left (by omega)
      have q := hc k hlt
      generalize l.getD k ByteArray.empty = s at q
      clear hc HA
      go_wp2
      · go_ret2
        exact ⟨⟨_, _, rfl⟩, rfl⟩
      · go_round
        case rel => exact ⟨k + 1, _, by omega, by go_num, rfl⟩
        case measure => simp [RowKit.intOf]; omega
    · go_wp2
      go_ret2
      exact ⟨⟨_, _, rfl⟩, rfl⟩

set_option maxHeartbeats 1600000 in
set_option maxRecDepth 100000 in
theorem bytes_any (u x p d : Bool) (fin told : List Bool) (lW lC lI : List ByteArray) (aF aW aC aI aT : Option Addr) (cF cW cC cI cT : Nat) (w : World)
    (hmF : fin.length ≤ maxLen) (hmW : lW.length ≤ maxLen) (hmC : lC.length ≤ maxLen) (hmI : lI.length ≤ maxLen) (hmT : told.length ≤ maxLen)
    (hW : At w aW lW.length (fun j => .string (lW.getD j ByteArray.empty))) (hC : At w aC lC.length (fun j => .string (lC.getD j ByteArray.empty))) (hI : At w aI lI.length (fun j => .string (lI.getD j ByteArray.empty))) :
    Calls Try.prog 8 #[.bool u, .bool x, .bool p, .bool d, .slice aF fin.length cF, .slice aW lW.length cW, .slice aC lC.length cC, .slice aI lI.length cI, .slice aT told.length cT] w
      fun e w' => BoolEnd e ∧ w' = w := by
  have HW := Lib.hid hW; have HC := Lib.hid hC; have HI := Lib.hid hI
  clear hW hC hI
  unfold maxLen at hmF hmW hmC hmI hmT
  go_enter Try.func8, Try.ntmps8
  go_wp2
  any_goals (go_ret; exact ⟨⟨_, rfl⟩, rfl⟩)
  go_loop [19, 20] (fun v i => ∃ (k : Nat) (z : Int), k ≤ lW.length ∧ i = .int .i64 k ∧ v = .int .i64 z ∧ 0 ≤ z ∧ z ≤ 1048576) (fun _ i => lW.length - (RowKit.intOf i).toNat)
  case atStart => exact ⟨0, _, Nat.zero_le _, rfl, rfl, by omega, by omega⟩
  case round =>
    obtain ⟨k, z, hk, rfl, rfl, hz0, hz1⟩ := hrel
    by_cases hlt : k < lW.length
    · obtain ⟨b, o, rfl, hb, hc⟩ := HW.out.resolve_left (by omega)
      have q := hc k hlt
      generalize lW.getD k ByteArray.empty = s at q
      clear hc HW HC HI
      go_wp2
      any_goals (go_ret; exact ⟨⟨_, rfl⟩, rfl⟩)
      go_round
      case rel => exact ⟨k + 1, _, by omega, by go_num, rfl, by omega, by omega⟩
      case measure => simp [RowKit.intOf]; omega
    · clear HW
      go_wp2
      any_goals (go_ret; exact ⟨⟨_, rfl⟩, rfl⟩)
      go_loop [19, 21] (fun v i => ∃ (k : Nat) (z : Int), k ≤ lC.length ∧ i = .int .i64 k ∧ v = .int .i64 z ∧ 0 ≤ z ∧ z ≤ 1048576) (fun _ i => lC.length - (RowKit.intOf i).toNat)
      case atStart => exact ⟨0, _, Nat.zero_le _, rfl, rfl, by omega, by omega⟩
      case round =>
        clear hk hlt hz0 hz1
        obtain ⟨k, z, hk, rfl, rfl, hz0, hz1⟩ := hrel
        by_cases hlt : k < lC.length
        · obtain ⟨b, o, rfl, hb, hc⟩ := HC.out.resolve_left (by omega)
          have q := hc k hlt
          generalize lC.getD k ByteArray.empty = s at q
          clear hc HC HI
          go_wp2
          any_goals (go_ret; exact ⟨⟨_, rfl⟩, rfl⟩)
          go_round
          case rel => exact ⟨k + 1, _, by omega, by go_num, rfl, by omega, by omega⟩
          case measure => simp [RowKit.intOf]; omega
        · clear HC
          go_wp2
          any_goals (go_ret; exact ⟨⟨_, rfl⟩, rfl⟩)
          go_loop [19, 22] (fun v i => ∃ (k : Nat) (z : Int), k ≤ lI.length ∧ i = .int .i64 k ∧ v = .int .i64 z ∧ 0 ≤ z ∧ z ≤ 1048576) (fun _ i => lI.length - (RowKit.intOf i).toNat)
          case atStart => exact ⟨0, _, Nat.zero_le _, rfl, rfl, by omega, by omega⟩
          case round =>
            clear hk hlt hz0 hz1
            obtain ⟨k, z, hk, rfl, rfl, hz0, hz1⟩ := hrel
            by_cases hlt : k < lI.length
            · obtain ⟨b, o, rfl, hb, hc⟩ := HI.out.resolve_left (by omega)
              have q := hc k hlt
              generalize lI.getD k ByteArray.empty = s at q
              clear hc HI
              go_wp2
              any_goals (go_ret; exact ⟨⟨_, rfl⟩, rfl⟩)
              go_round
              case rel => exact ⟨k + 1, _, by omega, by go_num, rfl, by omega, by omega⟩
              case measure => simp [RowKit.intOf]; omega
            · clear HI
              go_wp2
              any_goals (go_ret; exact ⟨⟨_, rfl⟩, rfl⟩)

set_option maxHeartbeats 1600000 in
set_option maxRecDepth 100000 in
theorem txOut_small (fin told : List Bool) (lW lC lI : List ByteArray) (aF aW aC aI aT : Option Addr) (cF cW cC cI cT : Nat) (w : World)
    (hmF : fin.length ≤ 4096) (hmW : lW.length ≤ 4096) (hmC : lC.length ≤ 4096) (hmI : lI.length ≤ 4096) (hmT : told.length ≤ 4096)
    (hW : At w aW lW.length (fun j => .string (lW.getD j ByteArray.empty))) (hC : At w aC lC.length (fun j => .string (lC.getD j ByteArray.empty))) (hI : At w aI lI.length (fun j => .string (lI.getD j ByteArray.empty))) :
    Calls Try.prog 6 #[.slice none 0 0, .slice none 0 0, .slice aF fin.length cF, .slice aW lW.length cW, .slice aC lC.length cC, .slice aI lI.length cI, .slice aT told.length cT] w
      fun e w' => BoolEnd e ∧ w' = w := by
  have S0 := Lib.hid (fun t => strBytes_any t [] none 0 w (by simp) (Or.inl rfl))
  have SW := Lib.hid (fun t => strBytes_any t lW aW cW w hmW hW)
  have SC := Lib.hid (fun t => strBytes_any t lC aC cC w hmC hC)
  have SI := Lib.hid (fun t => strBytes_any t lI aI cI w hmI hI)
  clear hW hC hI
  go_enter Try.func6, Try.ntmps6
  go_wp2_with fail
  refine (S0.out _).mono ?_
  rintro e w' ⟨⟨t0, b0, rfl⟩, rfl⟩
  cases b0
  · go_wp2_with fail
    refine (SW.out _).mono ?_
    rintro e w' ⟨⟨t1, b1, rfl⟩, rfl⟩
    cases b1
    · go_wp2_with fail
      refine (SC.out _).mono ?_
      rintro e w' ⟨⟨t2, b2, rfl⟩, rfl⟩
      cases b2
      · go_wp2_with fail
        refine (SI.out _).mono ?_
        rintro e w' ⟨⟨t3, b3, rfl⟩, rfl⟩
        go_wp2
        go_ret
        exact ⟨⟨_, rfl⟩, rfl⟩
      · go_wp2
        go_ret
        exact ⟨⟨_, rfl⟩, rfl⟩
    · go_wp2
      go_ret
      exact ⟨⟨_, rfl⟩, rfl⟩
  · go_wp2
    go_ret
    exact ⟨⟨_, rfl⟩, rfl⟩

set_option maxHeartbeats 1600000 in
set_option maxRecDepth 100000 in
theorem txOut_big (nF nW nC nI nT : Nat) (aF aW aC aI aT : Option Addr) (cF cW cC cI cT : Nat) (w : World)
    (h : ¬ (nF ≤ 4096 ∧ nW ≤ 4096 ∧ nC ≤ 4096 ∧ nI ≤ 4096 ∧ nT ≤ 4096)) :
    Calls Try.prog 6 #[.slice none 0 0, .slice none 0 0, .slice aF nF cF, .slice aW nW cW, .slice aC nC cC, .slice aI nI cI, .slice aT nT cT] w
      fun e w' => e = .returned (.bool true) ∧ w' = w := by
  by_cases h1 : nF ≤ 4096
  · by_cases h2 : nW ≤ 4096
    · by_cases h3 : nC ≤ 4096
      · by_cases h4 : nI ≤ 4096
        · have h5 : ¬ nT ≤ 4096 := fun h5 => h ⟨h1, h2, h3, h4, h5⟩
          clear h
          go_enter Try.func6, Try.ntmps6
          go_wp2
          go_ret
          exact ⟨rfl, rfl⟩
        · clear h
          go_enter Try.func6, Try.ntmps6
          go_wp2
          go_ret
          exact ⟨rfl, rfl⟩
      · clear h
        go_enter Try.func6, Try.ntmps6
        go_wp2
        go_ret
        exact ⟨rfl, rfl⟩
    · clear h
      go_enter Try.func6, Try.ntmps6
      go_wp2
      go_ret
      exact ⟨rfl, rfl⟩
  · clear h
    go_enter Try.func6, Try.ntmps6
    go_wp2
    go_ret
    exact ⟨rfl, rfl⟩
end Go.Proofs.Qxb6615484a
