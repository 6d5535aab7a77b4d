import Derived.Test.Qxb6615098aDoorRows
import Derived.Test.Qxb6615098aDoorTail
namespace Go.Proofs.Qxb6615098aDoor
open Go.RowKit Go.Lib

/-! ### The numeral read back -/
def val (l : List UInt8) : Nat := l.foldl (fun a c => a * 10 + (c.toNat - 48)) 0
theorem val_snoc (l : List UInt8) (c : UInt8) : val (l ++ [c]) = val l * 10 + (c.toNat - 48) := by unfold val; simp
theorem dig_toNat (d : Nat) (h : d < 10) : (UInt8.ofNat (48 + d)).toNat = 48 + d := by rw [UInt8.toNat_ofNat']; omega
theorem dec_succ (n : Nat) (h : ¬ n < 10) : Lib.decDigits n = Lib.decDigits (n / 10) ++ [UInt8.ofNat (48 + n % 10)] := by
  rw [Lib.decDigits, dif_neg h]
theorem val_dec : ∀ n : Nat, val (Lib.decDigits n) = n := by
  intro n
  induction n using Nat.strongRecOn with
  | _ n ih =>
    by_cases h : n < 10
    · rw [Lib.decDigits_one h]
      show 0 * 10 + ((UInt8.ofNat (48 + n)).toNat - 48) = n
      rw [dig_toNat n h]; omega
    · rw [dec_succ n h, val_snoc, ih (n / 10) (by omega), dig_toNat _ (by omega)]
      omega
theorem dec_inj {a b : Nat} (h : Lib.decDigits a = Lib.decDigits b) : a = b := by
  rw [← val_dec a, ← val_dec b, h]
theorem dec_digit : ∀ n : Nat, ∀ c ∈ Lib.decDigits n, 48 ≤ c.toNat ∧ c.toNat ≤ 57 := by
  intro n
  induction n using Nat.strongRecOn with
  | _ n ih =>
    intro c hc
    by_cases h : n < 10
    · rw [Lib.decDigits_one h] at hc
      simp only [List.mem_singleton] at hc
      subst hc
      rw [dig_toNat n h]; omega
    · rw [dec_succ n h, List.mem_append, List.mem_singleton] at hc
      rcases hc with hc | hc
      · exact ih (n / 10) (by omega) c hc
      · subst hc
        rw [dig_toNat _ (by omega)]; omega
/-- The first byte is no zero, unless it stands alone. -/
theorem dec_head : ∀ n : Nat, 1 ≤ n → ∃ c t, Lib.decDigits n = c :: t ∧ c.toNat ≠ 48 := by
  intro n
  induction n using Nat.strongRecOn with
  | _ n ih =>
    intro h1
    by_cases h : n < 10
    · exact ⟨_, [], Lib.decDigits_one h, by rw [dig_toNat n h]; omega⟩
    · obtain ⟨c, t, e, hc⟩ := ih (n / 10) (by omega) (by omega)
      exact ⟨c, t ++ [UInt8.ofNat (48 + n % 10)], by rw [dec_succ n h, e]; rfl, hc⟩
theorem dec_zero_len (n : Nat) (h : 1 < (Lib.decDigits n).length) : ∃ c t, Lib.decDigits n = c :: t ∧ c.toNat ≠ 48 := by
  apply dec_head
  rcases Nat.eq_zero_or_pos n with h0 | h0
  · subst h0
    rw [Lib.decDigits_one (by omega)] at h
    simp at h
  · exact h0

/-- What has been read after k bytes. -/
def valTo (n k : Nat) : Nat := val ((Lib.decDigits n).take k)
theorem val_take_le (l : List UInt8) (k : Nat) : val (l.take k) ≤ val l := by
  conv => rhs; rw [← List.take_append_drop k l]
  generalize l.take k = a
  generalize l.drop k = b
  unfold val
  rw [List.foldl_append]
  generalize List.foldl (fun a c => a * 10 + (UInt8.toNat c - 48)) 0 a = x
  induction b generalizing x with
  | nil => exact Nat.le_refl _
  | cons c b ih => exact Nat.le_trans (by omega) (ih (x * 10 + (UInt8.toNat c - 48)))
theorem valTo_le (n k : Nat) : valTo n k ≤ n := by
  unfold valTo
  exact Nat.le_trans (val_take_le _ k) (Nat.le_of_eq (val_dec n))
theorem valTo_succ (n k : Nat) (h : k < (Lib.decDigits n).length) : valTo n (k + 1) = valTo n k * 10 + (((Lib.decDigits n)[k]'h).toNat - 48) := by
  unfold valTo
  rw [List.take_succ_eq_append_getElem h, val_snoc]
theorem valTo_end (n k : Nat) (h : (Lib.decDigits n).length ≤ k) : valTo n k = n := by
  unfold valTo
  rw [List.take_of_length_le h, val_dec]

/-! ### The tag read back -/
theorem digit_lo (d : Nat) (h : d < 10) : (Hx.digit d).toNat = 48 + d := by
  have : ∀ d : Fin 10, (Hx.digit d.val).toNat = 48 + d.val := by decide +kernel
  exact this ⟨d, h⟩
theorem digit_hi (d : Nat) (h0 : 10 ≤ d) (h : d < 16) : (Hx.digit d).toNat = 87 + d := by
  have : ∀ d : Fin 16, 10 ≤ d.val → (Hx.digit d.val).toNat = 87 + d.val := by decide +kernel
  exact this ⟨d, h⟩ h0
theorem digit_inj {a b : Nat} (ha : a < 16) (hb : b < 16) (h : Hx.digit a = Hx.digit b) : a = b := by
  have : ∀ a b : Fin 16, Hx.digit a.val = Hx.digit b.val → a.val = b.val := by decide +kernel
  exact this ⟨a, ha⟩ ⟨b, hb⟩ h
theorem encode_inj : ∀ S T : List UInt8, S.length = T.length → Hx.encode S = Hx.encode T → S = T := by
  intro S
  induction S with
  | nil => intro T hl _; cases T with | nil => rfl | cons _ _ => simp at hl
  | cons a S ih =>
    intro T hl h
    cases T with
    | nil => simp at hl
    | cons b T =>
      rw [Hx.encode_cons, Hx.encode_cons] at h
      simp only [List.cons.injEq] at h
      have h1 := digit_inj (by have := a.toNat_lt; omega) (by have := b.toNat_lt; omega) h.1
      have h2 := digit_inj (by omega) (by omega) h.2.1
      have e : a = b := UInt8.toNat_inj.mp (by omega)
      rw [e, ih T (by simpa using hl) h.2.2]

theorem idB_inj {S T : List UInt8} {m n : Nat} (hl : S.length = T.length) (h : idB S m = idB T n) : S = T ∧ m = n := by
  have h1 := congrArg (fun s : ByteArray => s.data.toList) h
  unfold idB at h1
  simp only [List.append_assoc] at h1
  have h2 := List.append_cancel_left h1
  have h3 := List.append_inj h2 (by rw [Hx.encode_length, Hx.encode_length, hl])
  obtain ⟨h4, h5⟩ := h3
  refine ⟨encode_inj S T hl h4, ?_⟩
  have h6 := List.append_cancel_left h5
  exact dec_inj h6
end Go.Proofs.Qxb6615098aDoor
