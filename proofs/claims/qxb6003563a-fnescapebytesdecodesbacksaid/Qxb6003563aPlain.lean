/-
  DERIVED. THE PLAIN LAW of seat b6003563a: percent-encoding of a list of bytes, and its strict decoding. No model in this text.
-/
namespace Go.Proofs.Qxb6003563a.Pl

/-- An unreserved character of RFC 3986. -/
def unres (c : UInt8) : Bool := decide ((97 ≤ c.toNat ∧ c.toNat ≤ 122) ∨ (65 ≤ c.toNat ∧ c.toNat ≤ 90) ∨ (48 ≤ c.toNat ∧ c.toNat ≤ 57) ∨ c.toNat = 45 ∨ c.toNat = 46 ∨ c.toNat = 95 ∨ c.toNat = 126)
/-- An upper-case hexadecimal digit. -/
def hexd (n : Nat) : UInt8 := if n < 10 then UInt8.ofNat (48 + n) else UInt8.ofNat (55 + n)
def esc1 (c : UInt8) : List UInt8 := if unres c then [c] else [37, hexd (c.toNat / 16), hexd (c.toNat % 16)]
def esc (l : List UInt8) : List UInt8 := l.flatMap esc1

theorem esc_snoc (l : List UInt8) (c : UInt8) : esc (l ++ [c]) = esc l ++ esc1 c := by simp [esc]
theorem esc_cons (l : List UInt8) (c : UInt8) : esc (c :: l) = esc1 c ++ esc l := by simp [esc]
theorem esc1_yes {c : UInt8} (h : unres c = true) : esc1 c = [c] := by simp [esc1, h]
theorem esc1_no {c : UInt8} (h : unres c = false) : esc1 c = [37, hexd (c.toNat / 16), hexd (c.toNat % 16)] := by simp [esc1, h]
theorem esc1_len (c : UInt8) : 1 ≤ (esc1 c).length ∧ (esc1 c).length ≤ 3 := by unfold esc1; split <;> simp
theorem esc_len : ∀ l : List UInt8, l.length ≤ (esc l).length ∧ (esc l).length ≤ 3 * l.length
  | [] => by simp [esc]
  | c :: l => by
    have h1 := esc1_len c
    have h2 := esc_len l
    rw [esc_cons, List.length_append, List.length_cons]; omega

theorem hexd_toNat (n : Nat) (h : n < 16) : (hexd n).toNat = if n < 10 then 48 + n else 55 + n := by
  unfold hexd; split <;> rw [UInt8.toNat_ofNat'] <;> omega

/-- The text equals the bytes just where every byte is unreserved. -/
theorem esc_self : ∀ l : List UInt8, esc l = l ↔ ∀ c ∈ l, unres c = true
  | [] => by simp [esc]
  | c :: l => by
    rw [esc_cons]
    cases h : unres c
    · rw [esc1_no h]
      refine ⟨fun e => ?_, fun e => ?_⟩
      · injection e with e1 e2
        have hl := congrArg List.length e2
        have := (esc_len l).1
        simp at hl; omega
      · have := e c (List.mem_cons_self); rw [h] at this; cases this
    · rw [esc1_yes h]
      have ih := esc_self l
      simp [ih, h]
end Go.Proofs.Qxb6003563a.Pl
