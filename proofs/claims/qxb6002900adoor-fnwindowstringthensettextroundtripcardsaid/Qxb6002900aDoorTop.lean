/-
  DERIVED. setText AND canonicalInRange ANSWER BY ONE PREDICATE ('canon'); the walk of FnWholeSetTextMatchesCanonicalDecimalModel (function 3).
-/
import Derived.Test.Qxb6002900aDoorSet
namespace Go.Proofs.Qxb6002900aDoor
open Go.RowKit

/-- A canonical decimal numeral in 1 .. m. -/
def canon (l : List UInt8) (m : Int) : Prop := (∃ c r, l = c :: r ∧ 49 ≤ c.toNat) ∧ Pl.digs l ∧ (Pl.val 0 l : Int) ≤ m

theorem digs_at (s : ByteArray) (h : Pl.digs s.data.toList) : ∀ j (hj : j < s.size), 48 ≤ s[j].toNat ∧ s[j].toNat ≤ 57 := fun j hj => by
  rw [at_data s j hj]; exact h _ (List.getElem_mem _)
theorem digs_of (s : ByteArray) (h : ∀ j (hj : j < s.size), 48 ≤ s[j].toNat ∧ s[j].toNat ≤ 57) : Pl.digs s.data.toList := fun c hc => by
  obtain ⟨j, hj, rfl⟩ := List.getElem_of_mem hc
  exact h j (by simpa using hj)

theorem first_bad (s : ByteArray) : ∀ n (hn : n ≤ s.size), (∀ j (hj : j < n), 48 ≤ (s[j]'(by omega)).toNat ∧ (s[j]'(by omega)).toNat ≤ 57) ∨
    ∃ bad, ∃ hb : bad < s.size, (s[bad].toNat < 48 ∨ 57 < s[bad].toNat) ∧ ∀ j (hj : j < bad), 48 ≤ (s[j]'(by omega)).toNat ∧ (s[j]'(by omega)).toNat ≤ 57 := by
  intro n
  induction n with
  | zero => intro _; exact .inl fun j hj => by omega
  | succ n ih =>
    intro hn
    rcases ih (by omega) with h | h
    · by_cases hb : 48 ≤ (s[n]'(by omega)).toNat ∧ (s[n]'(by omega)).toNat ≤ 57
      · refine .inl fun j hj => ?_
        by_cases e : j = n
        · subst e; exact hb
        · exact h j (by omega)
      · exact .inr ⟨n, by omega, by omega, h⟩
    · exact .inr h

/-- Why a text is none. -/
theorem no_cases (s : ByteArray) (m : Int) (h : ¬ canon s.data.toList m) :
    s.size = 0 ∨ (∃ h0 : 0 < s.size, s[0].toNat = 48) ∨
    (∃ h0 : 0 < s.size, s[0].toNat ≠ 48 ∧ ∃ bad, ∃ hb : bad < s.size, (s[bad].toNat < 48 ∨ 57 < s[bad].toNat) ∧ ∀ j (hj : j < bad), 48 ≤ (s[j]'(by omega)).toNat ∧ (s[j]'(by omega)).toNat ≤ 57) ∨
    (∃ h0 : 0 < s.size, s[0].toNat ≠ 48 ∧ (∀ j (hj : j < s.size), 48 ≤ s[j].toNat ∧ s[j].toNat ≤ 57) ∧ m < (Pl.val 0 s.data.toList : Int)) := by
  by_cases e0 : s.size = 0
  · exact .inl e0
  · have h0 : 0 < s.size := by omega
    by_cases ez : s[0].toNat = 48
    · exact .inr (.inl ⟨h0, ez⟩)
    · rcases first_bad s s.size (Nat.le_refl _) with hd | hb
      · refine .inr (.inr (.inr ⟨h0, ez, hd, ?_⟩))
        have hh := hd 0 h0
        have hl : s.data.toList = s[0] :: s.data.toList.tail := by
          cases hs : s.data.toList with
          | nil => have : s.data.toList.length = s.size := by rw [Array.length_toList]; rfl
                   rw [hs] at this; simp at this; omega
          | cons c r =>
            have e1 := at_data s 0 h0
            simp only [hs] at e1
            rw [e1]; rfl
        by_cases hv : (Pl.val 0 s.data.toList : Int) ≤ m
        · exact absurd ⟨⟨_, _, hl, by omega⟩, digs_of s hd, hv⟩ h
        · omega
      · exact .inr (.inr (.inl ⟨h0, ez, hb⟩))

theorem head_at (s : ByteArray) (h0 : 0 < s.size) : s.data.toList.head? = some s[0] := by
  rw [at_data s 0 h0, List.head?_eq_getElem?, List.getElem?_eq_getElem]
theorem head_ne (s : ByteArray) (h0 : 0 < s.size) (h : s[0].toNat ≠ 48) : ¬ s.data.toList.head? = some 48 := by
  rw [head_at s h0]; intro e; injection e with e; rw [e] at h; exact h rfl
theorem head_none (s : ByteArray) (h0 : s.size = 0) : ¬ s.data.toList.head? = some 48 := by
  have : s.data.toList = [] := List.length_eq_zero_iff.1 (by rw [Array.length_toList]; exact h0)
  rw [this]; simp

/-! ### setText -/
theorem shim6 {t : Bool} {R : World → Prop} (s : ByteArray) (m : Int) (b : Nat) (w : World)
    (h : Calls Tryd.prog 10 #[.agg #[.pointer (some ⟨b, 0, none⟩), .int .i64 m], .string s] w fun e w' => e = .returned (.bool t) ∧ R w') :
    Calls Tryd.prog 6 #[.pointer (some ⟨b, 0, none⟩), .int .i64 m, .string s] w fun e w' => e = .returned (.bool t) ∧ R w' := by
  go_enter Tryd.func6, Tryd.ntmps6
  go_wp2_with (go_at_call 10; refine h.mono ?_; rintro e w1 ⟨rfl, hR⟩)
  go_ret
  exact ⟨rfl, hR⟩

theorem setText_no (s : ByteArray) (m : Int) (b : Nat) (hs : s.size ≤ 1048576) (hn : ¬ canon s.data.toList m) (w : World) (hL : Laid w) :
    Calls Tryd.prog 6 #[.pointer (some ⟨b, 0, none⟩), .int .i64 m, .string s] w fun e w' => e = .returned (.bool false) ∧ Below w.heap.size w w' := by
  refine shim6 s m b w ?_
  rcases no_cases s m hn with h0 | ⟨h0, hz⟩ | ⟨h0, hz, bad, hb, hbad, hok⟩ | ⟨h0, hz, hd, hv⟩
  · exact set_err s m _ (head_none s h0) (fun j hj => by omega) (fun w hL => parse_none s h0 w hL) w hL
  · exact set_zero s m _ (by rw [head_at s h0]; congr 1; exact UInt8.toNat_inj.1 hz) w
  · exact set_nodigit s m _ (head_ne s h0 hz) bad hb hbad hok w
  · have hl : ∃ c r, s.data.toList = c :: r := by
      cases e : s.data.toList with
      | nil => have h1 : s.data.toList.length = s.size := by rw [Array.length_toList]; rfl
               rw [e] at h1; simp at h1; omega
      | cons c r => exact ⟨c, r, rfl⟩
    obtain ⟨c, r, el⟩ := hl
    have hdg := digs_of s hd
    have hc49 : 49 ≤ c.toNat := by
      have h1 := hd 0 h0
      have h2 := head_at s h0
      rw [el] at h2
      injection h2 with h2
      rw [h2]; omega
    have hpc := Pl.parse_cases c r (by rw [← el]; exact hdg)
    rw [← el] at hpc
    rcases hpc with ⟨_, hp⟩ | ⟨_, hp⟩
    · refine set_over s m _ hs (head_ne s h0 hz) hd _ hp ?_ hv w
      have := Pl.val_ge c r hc49
      rw [← el] at this
      have := Nat.pow_pos (n := r.length) (show 0 < 10 by omega)
      omega
    · exact set_err s m _ (head_ne s h0 hz) hd (fun w hL => parse_range s hs hp w hL) w hL

theorem setText_yes (s : ByteArray) (m : Int) (b : Nat) (c0 : Int) (hs : s.size ≤ 1048576) (hm : m < 9223372036854775808) (hy : canon s.data.toList m) (w : World) (hb : b < w.heap.size)
    (hcell : w.cell? ⟨b, 0, none⟩ = some (.int .i64 c0)) (hfr : w.frozen? ⟨b, 0, none⟩ = false) :
    Calls Tryd.prog 6 #[.pointer (some ⟨b, 0, none⟩), .int .i64 m, .string s] w fun e w' => e = .returned (.bool true) ∧
      (w'.cell? ⟨b, 0, none⟩ = some (.int .i64 (Pl.val 0 s.data.toList : Nat)) ∧ Below b w w' ∧ w'.frozen? ⟨b, 0, none⟩ = false) := by
  refine shim6 (R := fun w' => w'.cell? ⟨b, 0, none⟩ = some (.int .i64 (Pl.val 0 s.data.toList : Nat)) ∧ Below b w w' ∧ w'.frozen? ⟨b, 0, none⟩ = false) s m b w ?_
  obtain ⟨⟨c, r, el, h49⟩, hdg, hv⟩ := hy
  have hpc := Pl.parse_cases c r (by rw [← el]; exact hdg)
  have hge := Pl.val_ge c r h49
  rw [← el] at hpc hge
  have hpos := Nat.pow_pos (n := r.length) (show 0 < 10 by omega)
  rcases hpc with ⟨_, hp⟩ | ⟨hbig, _⟩
  · refine set_yes s m b c0 hs ?_ (digs_at s hdg) _ hp (by omega) hv w hb hcell hfr
    rw [el]; intro e; simp at e; rw [e] at h49; exact absurd h49 (by decide)
  · omega

theorem getD_at (l : List UInt8) (j : Nat) (h : j < l.length) : l.getD j 0 = l[j] := by rw [List.getD_eq_getElem?_getD, List.getElem?_eq_getElem h]; rfl

/-! ### canonicalInRange -/
theorem cir_no (s : ByteArray) (m : Int) (hs : s.size ≤ 1048576) (hm : m < 9223372036854775808) (hn : ¬ canon s.data.toList m) (w : World) :
    Calls Tryd.prog 7 #[.string s, .int .i64 m] w fun e w' => e = .returned (.tuple #[.bool false, .int .i64 0]) ∧ Below w.heap.size w w' := by
  have same : (Calls Tryd.prog 7 #[.string s, .int .i64 m] w fun e w' => e = .returned (.tuple #[.bool false, .int .i64 0]) ∧ w' = w) →
      Calls Tryd.prog 7 #[.string s, .int .i64 m] w fun e w' => e = .returned (.tuple #[.bool false, .int .i64 0]) ∧ Below w.heap.size w w' := fun h =>
    h.mono fun e w' ⟨he, hw⟩ => ⟨he, by rw [hw]; exact Below.refl _ _⟩
  by_cases h1 : m < 1
  · exact same (cir_max s m h1 w)
  rcases no_cases s m hn with h0 | ⟨h0, hz⟩ | ⟨h0, hz, bad, hb, hbad, hok⟩ | ⟨h0, hz, hd, hv⟩
  · exact same (cir_empty s m (by omega) h0 w)
  · exact same (cir_zero s m (by omega) h0 hz w)
  · exact same (cir_nodigit s m (by omega) h0 hs hz bad hb hbad hok w)
  · clear same
    obtain ⟨n, rfl⟩ : ∃ n : Nat, m = n := ⟨m.toNat, by omega⟩
    have hval := Pl.decDigits_val n n (Nat.le_refl _)
    have hdd := Pl.decDigits_digs n n (Nat.le_refl _)
    obtain ⟨c, r, ed, h49⟩ := Pl.decDigits_head n n (Nat.le_refl _) (by omega)
    have hsz : s.data.toList.length = s.size := by rw [Array.length_toList]; rfl
    by_cases hl : (Lib.decDigits n).length < s.size
    · exact cir_long s n (by omega) (by omega) h0 hs hz hd hl w
    · have hnl : ¬ s.size < (Lib.decDigits n).length := fun hlt => by
        have := Pl.less_of_shorter s.data.toList (Lib.decDigits n) (digs_of s hd) c r ed h49 (by omega)
        omega
      have heq : s.size = (Lib.decDigits n).length := by omega
      rcases first_diff s.data.toList (Lib.decDigits n) (by omega) with e | ⟨j, h1, h2, ht, hne⟩
      · rw [e] at hv; omega
      · have hgt : (Lib.decDigits n)[j].toNat < s[j].toNat := by
          rw [at_data s j (by omega)]
          have hne2 : s.data.toList[j].toNat ≠ (Lib.decDigits n)[j].toNat := fun e => hne (UInt8.toNat_inj.1 e)
          by_cases hlt : s.data.toList[j].toNat < (Lib.decDigits n)[j].toNat
          · have := Pl.less_of_digit s.data.toList (Lib.decDigits n) (digs_of s hd) hdd (by omega) j h1 ht (by rw [getD_at _ j h1, getD_at _ j h2]; exact hlt)
            omega
          · omega
        refine cir_more s n (by omega) (by omega) h0 hs hz hd heq j (by omega) h2 (fun k hk h3 h4 => ?_) hgt w
        rw [at_data s k h3]
        have e1 : (s.data.toList.take j)[k]? = ((Lib.decDigits n).take j)[k]? := by rw [ht]
        rw [List.getElem?_take_of_lt hk, List.getElem?_take_of_lt hk, List.getElem?_eq_getElem (by omega), List.getElem?_eq_getElem h4] at e1
        exact Option.some.inj e1

theorem cir_yes (s : ByteArray) (m : Int) (hs : s.size ≤ 1048576) (hm : m < 9223372036854775808) (hy : canon s.data.toList m) (w : World) :
    Calls Tryd.prog 7 #[.string s, .int .i64 m] w fun e w' => e = .returned (.tuple #[.bool true, .int .i64 (Pl.val 0 s.data.toList : Nat)]) ∧ Below w.heap.size w w' := by
  obtain ⟨⟨c0, r0, el, h49⟩, hdg, hv⟩ := hy
  have hge := Pl.val_ge c0 r0 h49
  rw [← el] at hge
  have hpos := Nat.pow_pos (n := r0.length) (show 0 < 10 by omega)
  have hsz : s.data.toList.length = s.size := by rw [Array.length_toList]; rfl
  have h0 : 0 < s.size := by rw [← hsz, el]; simp
  have hz : s[0].toNat ≠ 48 := by
    have h2 := head_at s h0
    rw [el] at h2; injection h2 with h2; rw [← h2]; omega
  have hd := digs_at s hdg
  obtain ⟨n, rfl⟩ : ∃ n : Nat, m = n := ⟨m.toNat, by omega⟩
  have hval := Pl.decDigits_val n n (Nat.le_refl _)
  have hdd := Pl.decDigits_digs n n (Nat.le_refl _)
  have hvn : Pl.val 0 s.data.toList ≤ n := by omega
  by_cases hl : s.size < (Lib.decDigits n).length
  · exact cir_short s n (by omega) (by omega) h0 hs hz hd hl hvn w
  · have hnl : ¬ (Lib.decDigits n).length < s.size := fun hlt => by
      have := Pl.less_of_shorter (Lib.decDigits n) s.data.toList hdd c0 r0 el h49 (by omega)
      omega
    have heq : s.size = (Lib.decDigits n).length := by omega
    rcases first_diff s.data.toList (Lib.decDigits n) (by omega) with e | ⟨j, h1, h2, ht, hne⟩
    · exact cir_same s n (by omega) (by omega) h0 hs hz hd e hvn w
    · have hlt : s[j].toNat < (Lib.decDigits n)[j].toNat := by
        rw [at_data s j (by omega)]
        have hne2 : s.data.toList[j].toNat ≠ (Lib.decDigits n)[j].toNat := fun e => hne (UInt8.toNat_inj.1 e)
        by_cases hgt : (Lib.decDigits n)[j].toNat < s.data.toList[j].toNat
        · have := Pl.less_of_digit (Lib.decDigits n) s.data.toList hdd hdg (by omega) j h2 ht.symm (by rw [getD_at _ j h1, getD_at _ j h2]; exact hgt)
          omega
        · omega
      refine cir_less s n (by omega) (by omega) h0 hs hz hd heq j (by omega) h2 (fun k hk h3 h4 => ?_) hlt hvn w
      rw [at_data s k h3]
      have e1 : (s.data.toList.take j)[k]? = ((Lib.decDigits n).take j)[k]? := by rw [ht]
      rw [List.getElem?_take_of_lt hk, List.getElem?_take_of_lt hk, List.getElem?_eq_getElem (by omega), List.getElem?_eq_getElem h4] at e1
      exact Option.some.inj e1

/-! ### FnWholeSetTextMatchesCanonicalDecimalModel -/
theorem whole_any (c m : Int) (s : ByteArray) (w : World) (hL : Laid w) (hm : m < 9223372036854775808) (hmx : s.size ≤ maxLen) :
    Calls Tryd.prog 3 #[.int .i64 c, .int .i64 m, .string s] w fun e w' => e = .returned (.bool true) ∧ Below w.heap.size w w' := by
  unfold maxLen at hmx
  by_cases hbig : 1048576 < s.size
  · have hb : (1048576 : Int) < (s.size : Int) := by omega
    go_enter Tryd.func3, Tryd.ntmps3
    go_wp2
    go_ret
    exact ⟨rfl, Below.refl _ _⟩
  · have hb : ¬ (1048576 : Int) < (s.size : Int) := by omega
    have hs : s.size ≤ 1048576 := by omega
    have hlow := hL.low
    have hL1 : ∀ o, Laid (w.alloc o) := fun o => hL.below ((Below.refl _ _).alloc (Nat.le_refl _) o) hlow
    have hB : ∀ o, Below w.heap.size w (w.alloc o) := fun o => (Below.refl _ _).alloc (Nat.le_refl _) o
    by_cases hy : canon s.data.toList m
    · have k6 := setText_yes s m w.heap.size c hs hm hy (w.alloc (.cells #[.int .i64 c] 2)) (by simp) (by simp [go_sem]) (by simp [go_sem])
      have k7 := fun w => cir_yes s m hs hm hy w
      clear hy
      go_enter Tryd.func3, Tryd.ntmps3
      go_wp2_with (first | (go_at_call 6; refine k6.mono ?_; rintro e w1 ⟨rfl, hc1, hb1, hf1⟩; refine Hid.out ?_) | (go_at_call 7; refine (k7 _).mono ?_; rintro e w2 ⟨rfl, hb2⟩) | go_in)
      have hz1 : w.heap.size < w1.heap.size := by have := hb1.size; simp at this; omega
      refine Lib.hid ?_
      go_wp2_with (first | (go_at_call 7; refine (k7 _).mono ?_; rintro e w2 ⟨rfl, hb2⟩; refine Hid.out ?_) | go_in)
      have hc2 : w2.cell? ⟨w.heap.size, 0, none⟩ = some (.int .i64 (Pl.val 0 s.data.toList : Nat)) := by rw [hb2.cell hz1]; exact hc1
      have hb3 : Below w.heap.size w w2 := ((hB _).trans hb1).trans (hb2.mono (by omega))
      clear hc1 hb1 hf1 hb2
      generalize Pl.val 0 s.data.toList = V at hc2 ⊢
      refine Lib.hid ?_
      go_wp2
      go_ret
      exact ⟨by simp, hb3⟩
    · have k6 := setText_no s m w.heap.size hs hy (w.alloc (.cells #[.int .i64 c] 2)) (hL1 _)
      have k7 := fun w => cir_no s m hs hm hy w
      clear hy
      go_enter Tryd.func3, Tryd.ntmps3
      go_wp2_with (first | (go_at_call 6; refine k6.mono ?_; rintro e w1 ⟨rfl, hb1⟩; refine Hid.out ?_) | go_in)
      have hz1 : w.heap.size < w1.heap.size := by have := hb1.size; simp at this; omega
      have hc1 : w1.cell? ⟨w.heap.size, 0, none⟩ = some (.int .i64 c) := by rw [hb1.cell (by simp)]; simp [go_sem]
      refine Lib.hid ?_
      go_wp2_with (first | (go_at_call 7; refine (k7 _).mono ?_; rintro e w2 ⟨rfl, hb2⟩; refine Hid.out ?_) | go_in)
      have hc2 : w2.cell? ⟨w.heap.size, 0, none⟩ = some (.int .i64 c) := by rw [hb2.cell hz1]; exact hc1
      have hb3 : Below w.heap.size w w2 := ((hB _).trans (hb1.mono (by simp))).trans (hb2.mono (by omega))
      clear hc1 hb1 hb2
      refine Lib.hid ?_
      go_wp2
      go_ret
      exact ⟨by simp, hb3⟩
end Go.Proofs.Qxb6002900aDoor
