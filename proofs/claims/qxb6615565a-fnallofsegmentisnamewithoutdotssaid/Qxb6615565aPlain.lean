namespace Go.Proofs.Qxb6615565a.Pl

/-- A letter, as a number. -/
def letterI (r : Int) : Bool := decide ((97 ≤ r ∧ r ≤ 122) ∨ (65 ≤ r ∧ r ≤ 90))
def digI (r : Int) : Bool := decide (48 ≤ r ∧ r ≤ 57)
def nameI (r : Int) : Bool := decide ((97 ≤ r ∧ r ≤ 122) ∨ (65 ≤ r ∧ r ≤ 90) ∨ (48 ≤ r ∧ r ≤ 57) ∨ r = 95 ∨ r = 45)
def segI (r : Int) : Bool := decide ((97 ≤ r ∧ r ≤ 122) ∨ (65 ≤ r ∧ r ≤ 90) ∨ (48 ≤ r ∧ r ≤ 57) ∨ r = 95 ∨ r = 45 ∨ r = 46)

def nb (c : UInt8) : Bool := nameI (c.toNat : Int)
def sb (c : UInt8) : Bool := segI (c.toNat : Int)

theorem nameI_yes {r : Int} (h : (97 ≤ r ∧ r ≤ 122) ∨ (65 ≤ r ∧ r ≤ 90) ∨ (48 ≤ r ∧ r ≤ 57) ∨ r = 95 ∨ r = 45) : nameI r = true := by
  unfold nameI; exact decide_eq_true h
theorem nameI_no {r : Int} (h : ¬ ((97 ≤ r ∧ r ≤ 122) ∨ (65 ≤ r ∧ r ≤ 90) ∨ (48 ≤ r ∧ r ≤ 57) ∨ r = 95 ∨ r = 45)) : nameI r = false := by
  unfold nameI; exact decide_eq_false h
theorem segI_yes {r : Int} (h : (97 ≤ r ∧ r ≤ 122) ∨ (65 ≤ r ∧ r ≤ 90) ∨ (48 ≤ r ∧ r ≤ 57) ∨ r = 95 ∨ r = 45 ∨ r = 46) : segI r = true := by
  unfold segI; exact decide_eq_true h
theorem segI_no {r : Int} (h : ¬ ((97 ≤ r ∧ r ≤ 122) ∨ (65 ≤ r ∧ r ≤ 90) ∨ (48 ≤ r ∧ r ≤ 57) ∨ r = 95 ∨ r = 45 ∨ r = 46)) : segI r = false := by
  unfold segI; exact decide_eq_false h

theorem nameI_high {r : Int} (h : 128 ≤ r) : nameI r = false := nameI_no (by omega)
theorem segI_high {r : Int} (h : 128 ≤ r) : segI r = false := segI_no (by omega)
theorem segI_eq (r : Int) : segI r = (nameI r || decide (r = 46)) := by
  unfold segI nameI
  rw [Bool.eq_iff_iff]
  simp only [Bool.or_eq_true, decide_eq_true_eq]
  constructor <;> intro h <;> omega

/-- A string's bytes all pass, up to a place. -/
theorem all_take_succ (p : UInt8 → Bool) (l : List UInt8) (k : Nat) (h : k < l.length) (ha : (l.take k).all p = true) (hp : p l[k] = true) : (l.take (k + 1)).all p = true := by
  rw [List.take_succ_eq_append_getElem h, List.all_append, ha]
  simp [hp]
theorem all_no (p : UInt8 → Bool) (l : List UInt8) (k : Nat) (h : k < l.length) (hp : p l[k] = false) : l.all p = false := by
  rw [List.all_eq_false]
  exact ⟨l[k], List.getElem_mem h, by simp [hp]⟩
theorem all_whole (p : UInt8 → Bool) (l : List UInt8) (k : Nat) (h : l.length ≤ k) (ha : (l.take k).all p = true) : l.all p = true := by
  rw [List.take_of_length_le h] at ha
  exact ha

/-- What zzAllBytes asks of a byte. -/
def db (dot : Bool) (c : UInt8) : Bool := nb c || (dot && decide ((c.toNat : Int) = 46))
theorem db_false (c : UInt8) : db false c = nb c := by unfold db; simp
theorem db_true (c : UInt8) : db true c = sb c := by unfold db sb nb; rw [segI_eq]; simp

/-- The bytes that zzDropDots keeps. -/
def nd (c : UInt8) : Bool := !decide ((c.toNat : Int) = 46)
theorem seg_drop (l : List UInt8) : l.all sb = (l.filter nd).all nb := by
  induction l with
  | nil => rfl
  | cons c l ih =>
    rw [List.filter_cons, List.all_cons, ih]
    by_cases h : (c.toNat : Int) = 46
    · have e1 : nd c = false := by unfold nd; simp [h]
      have e2 : sb c = true := by unfold sb; exact segI_yes (by omega)
      simp [e1, e2]
    · have e1 : nd c = true := by unfold nd; simp [h]
      have e2 : sb c = nb c := by unfold sb nb; rw [segI_eq]; simp [h]
      simp [e1, e2]

/-- The byte as zzNameByte folds it. -/
theorem or32 : ∀ c : Fin 256, (97 ≤ (c.val ||| 32) ∧ (c.val ||| 32) ≤ 122) ↔ ((97 ≤ c.val ∧ c.val ≤ 122) ∨ (65 ≤ c.val ∧ c.val ≤ 90)) := by decide +kernel
theorem or32' (c : UInt8) : (97 ≤ (c.toNat ||| 32) ∧ (c.toNat ||| 32) ≤ 122) ↔ ((97 ≤ c.toNat ∧ c.toNat ≤ 122) ∨ (65 ≤ c.toNat ∧ c.toNat ≤ 90)) := or32 ⟨c.toNat, c.toNat_lt⟩
def allB (p : UInt8 → Bool) (s : ByteArray) : Bool := s.data.toList.all p
end Go.Proofs.Qxb6615565a.Pl
