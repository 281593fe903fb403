/-
  DERIVED. THE PLAIN LAW of seat b6003233aD: decimal numerals as lists of bytes. No model in this text.
-/
import Derived.Lib.ItoaNum
namespace Go.Proofs.Qxb6003233aDoor.Pl
open Go.Lib

/-- A decimal digit. -/
def dig (c : UInt8) : Bool := decide (48 ≤ c.toNat ∧ c.toNat ≤ 57)
/-- What the digits spell, behind 'acc'. -/
def val (acc : Nat) (l : List UInt8) : Nat := l.foldl (fun a c => a * 10 + (c.toNat - 48)) acc
def digs (l : List UInt8) : Prop := ∀ c ∈ l, 48 ≤ c.toNat ∧ c.toNat ≤ 57

theorem dig_iff (c : UInt8) : dig c = true ↔ 48 ≤ c.toNat ∧ c.toNat ≤ 57 := by simp [dig]

theorem val_nil (acc : Nat) : val acc [] = acc := rfl
theorem val_cons (acc : Nat) (c : UInt8) (l : List UInt8) : val acc (c :: l) = val (acc * 10 + (c.toNat - 48)) l := by unfold val; rw [List.foldl_cons]
theorem val_append (acc : Nat) (l m : List UInt8) : val acc (l ++ m) = val (val acc l) m := by unfold val; rw [List.foldl_append]
theorem val_snoc (acc : Nat) (l : List UInt8) (c : UInt8) : val acc (l ++ [c]) = val acc l * 10 + (c.toNat - 48) := by rw [val_append, val_cons, val_nil]

theorem val_shift (l : List UInt8) : ∀ acc : Nat, val acc l = acc * 10 ^ l.length + val 0 l := by
  induction l with
  | nil => intro acc; rw [val_nil, val_nil, List.length_nil, Nat.pow_zero, Nat.mul_one, Nat.add_zero]
  | cons c l ih =>
    intro acc
    rw [val_cons, val_cons, ih (acc * 10 + (c.toNat - 48)), ih (0 * 10 + (c.toNat - 48)), List.length_cons, Nat.pow_succ]
    generalize 10 ^ l.length = p
    generalize c.toNat - 48 = d
    generalize val 0 l = v
    rw [Nat.add_mul, Nat.mul_assoc, Nat.mul_comm 10 p, Nat.zero_mul, Nat.zero_add, Nat.add_assoc]

theorem val_lt : ∀ (l : List UInt8), digs l → val 0 l < 10 ^ l.length
  | [], _ => by simp [val_nil]
  | c :: l, h => by
    have hc := h c (List.mem_cons_self)
    have hl := val_lt l (fun x hx => h x (List.mem_cons_of_mem _ hx))
    rw [val_cons, val_shift]
    simp only [List.length_cons, Nat.pow_succ, Nat.zero_mul, Nat.zero_add]
    have : (c.toNat - 48) * 10 ^ l.length ≤ 9 * 10 ^ l.length := Nat.mul_le_mul_right _ (by omega)
    omega

theorem val_mono_acc (l : List UInt8) (acc : Nat) : acc ≤ val acc l := by
  rw [val_shift]
  have := Nat.le_mul_of_pos_right acc (Nat.pow_pos (n := l.length) (show 0 < 10 by omega))
  omega

theorem val_take_le (l : List UInt8) (k : Nat) : val 0 (l.take k) ≤ val 0 l := by
  have : val 0 l = val (val 0 (l.take k)) (l.drop k) := by rw [← val_append, List.take_append_drop]
  rw [this]; exact val_mono_acc _ _

/-- A numeral whose first digit is not 0. -/
theorem val_ge (c : UInt8) (l : List UInt8) (h : 49 ≤ c.toNat) : 10 ^ l.length ≤ val 0 (c :: l) := by
  rw [val_cons, val_shift]
  have : 1 * 10 ^ l.length ≤ (0 * 10 + (c.toNat - 48)) * 10 ^ l.length := Nat.mul_le_mul_right _ (by omega)
  omega

/-! ### The numeral of a number -/
theorem ofNat_toNat (n : Nat) (h : n < 256) : (UInt8.ofNat n).toNat = n := by
  rw [UInt8.toNat_ofNat']; omega

theorem decDigits_digs : ∀ (n u : Nat), u ≤ n → digs (decDigits u) := by
  intro n
  induction n with
  | zero =>
    intro u hu c hc
    rw [decDigits, dif_pos (by omega)] at hc
    simp only [List.mem_singleton] at hc
    subst hc; rw [ofNat_toNat _ (by omega)]; omega
  | succ n ih =>
    intro u hu c hc
    rw [decDigits] at hc
    split at hc
    · simp only [List.mem_singleton] at hc
      subst hc; rw [ofNat_toNat _ (by omega)]; omega
    · rw [List.mem_append, List.mem_singleton] at hc
      rcases hc with hc | hc
      · exact ih (u / 10) (by omega) c hc
      · subst hc; rw [ofNat_toNat _ (by omega)]; omega

theorem decDigits_val : ∀ (n u : Nat), u ≤ n → val 0 (decDigits u) = u := by
  intro n
  induction n with
  | zero =>
    intro u hu
    rw [decDigits, dif_pos (by omega), val_cons, val_nil, ofNat_toNat _ (by omega)]; omega
  | succ n ih =>
    intro u hu
    rw [decDigits]
    split
    · rw [val_cons, val_nil, ofNat_toNat _ (by omega)]; omega
    · rw [val_snoc, ih (u / 10) (by omega), ofNat_toNat _ (by omega)]; omega

/-- The first digit of a number that is not 0 is not 0. -/
theorem decDigits_head : ∀ (n u : Nat), u ≤ n → 1 ≤ u → ∃ c r, decDigits u = c :: r ∧ 49 ≤ c.toNat := by
  intro n
  induction n with
  | zero => intro u hu h1; omega
  | succ n ih =>
    intro u hu h1
    rw [decDigits]
    split
    · exact ⟨_, [], rfl, by rw [ofNat_toNat _ (by omega)]; omega⟩
    · obtain ⟨c, r, e, h⟩ := ih (u / 10) (by omega) (by omega)
      exact ⟨c, r ++ [UInt8.ofNat (48 + u % 10)], by rw [e]; rfl, h⟩

/-! ### Two numerals compared: length first, then digit by digit -/
theorem less_of_shorter (l m : List UInt8) (hl : digs l) (c : UInt8) (r : List UInt8) (e : m = c :: r) (h49 : 49 ≤ c.toNat) (hlen : l.length < m.length) : val 0 l < val 0 m := by
  have h1 := val_lt l hl
  have h2 := val_ge c r h49
  rw [← e] at h2
  have h3 : l.length ≤ r.length := by rw [e, List.length_cons] at hlen; omega
  have h4 : 10 ^ l.length ≤ 10 ^ r.length := Nat.pow_le_pow_right (by omega) h3
  omega

/-- The first digit in which two numerals of one length part decides. -/
theorem less_of_digit (l m : List UInt8) (hl : digs l) (hm : digs m) (hlen : l.length = m.length) (j : Nat) (hj : j < l.length) (heq : l.take j = m.take j)
    (hlt : (l.getD j 0).toNat < (m.getD j 0).toNat) : val 0 l < val 0 m := by
  have hj2 : j < m.length := by omega
  have el : l = l.take j ++ l[j] :: l.drop (j + 1) := by rw [← List.drop_eq_getElem_cons hj, List.take_append_drop]
  have em : m = m.take j ++ m[j] :: m.drop (j + 1) := by rw [← List.drop_eq_getElem_cons hj2, List.take_append_drop]
  have gl : l.getD j 0 = l[j] := by simp [List.getD_eq_getElem?_getD, hj]
  have gm : m.getD j 0 = m[j] := by simp [List.getD_eq_getElem?_getD, hj2]
  rw [gl, gm] at hlt
  have dl := hl _ (List.getElem_mem hj)
  have dm := hm _ (List.getElem_mem hj2)
  have vl : val 0 l = val (val 0 (l.take j) * 10 + (l[j].toNat - 48)) (l.drop (j + 1)) := by
    conv => lhs; rw [el]
    rw [val_append, val_cons]
  have vm : val 0 m = val (val 0 (l.take j) * 10 + (m[j].toNat - 48)) (m.drop (j + 1)) := by
    conv => lhs; rw [em]
    rw [val_append, val_cons, heq]
  rw [vl, vm, val_shift, val_shift (m.drop (j + 1))]
  have hd : (l.drop (j + 1)).length = (m.drop (j + 1)).length := by simp [hlen]
  have ht := val_lt (l.drop (j + 1)) (fun c hc => hl c (List.mem_of_mem_drop hc))
  rw [hd] at ht ⊢
  generalize 10 ^ (m.drop (j + 1)).length = p at *
  generalize val 0 (l.take j) * 10 = q at *
  have hk : q + (l[j].toNat - 48) + 1 ≤ q + (m[j].toNat - 48) := by omega
  have := Nat.mul_le_mul_right p hk
  rw [Nat.add_mul (q + (l[j].toNat - 48)) 1 p] at this
  omega


/-- Two lists of one length are one, or there is a first place where they part. -/
theorem first_diff : ∀ (l m : List UInt8), l.length = m.length → l = m ∨ ∃ j, j < l.length ∧ l.take j = m.take j ∧ l.getD j 0 ≠ m.getD j 0
  | [], [], _ => .inl rfl
  | [], _ :: _, h => by simp at h
  | _ :: _, [], h => by simp at h
  | a :: l, b :: m, h => by
    by_cases e : a = b
    · subst e
      rcases first_diff l m (by simpa using h) with rfl | ⟨j, h1, h3, h4⟩
      · exact .inl rfl
      · exact .inr ⟨j + 1, by simpa using h1, by simp [h3], by simpa using h4⟩
    · exact .inr ⟨0, by simp, by simp, by simpa using e⟩

theorem val_zeros (k : Nat) (l : List UInt8) : val 0 (List.replicate k 48 ++ l) = val 0 l := by
  induction k with
  | zero => simp
  | succ k ih => rw [List.replicate_succ, List.cons_append, val_cons]; exact ih

theorem take_getD (l m : List UInt8) (j k : Nat) (h : l.take j = m.take j) (hk : k < j) : l.getD k 0 = m.getD k 0 := by
  have e : (l.take j)[k]? = (m.take j)[k]? := by rw [h]
  rw [List.getElem?_take_of_lt hk, List.getElem?_take_of_lt hk] at e
  rw [List.getD_eq_getElem?_getD, List.getD_eq_getElem?_getD, e]
end Go.Proofs.Qxb6003233aDoor.Pl
