import Derived.Test.Qxb6002900aDoorDec
import Derived.Deep.QuietTactic
import Derived.BigQuiet
import Derived.Lib.Hide
namespace Go.Proofs.Qxb6002900aDoor
open Go.RowKit

theorem dec_any (x : Nat) (hx : x < 9223372036854775808) (w : World) :
    Calls Tryd.prog 9 #[.int .i64 x] w fun e w' => ∃ ms : ByteArray, e = .returned (.string ms) ∧ Hid (ms = ⟨(Lib.decDigits x).toArray⟩) ∧ Below w.heap.size w w' :=
  (decimalOf_any x hx w).mono fun _ _ ⟨he, hb⟩ => ⟨_, he, rfl, hb⟩

/-- max below 1. -/
theorem cir_max (s : ByteArray) (m : Int) (hm : m < 1) (w : World) :
    Calls Tryd.prog 7 #[.string s, .int .i64 m] w fun e w' => e = .returned (.tuple #[.bool false, .int .i64 0]) ∧ w' = w := by
  go_enter Tryd.func7, Tryd.ntmps7
  go_wp2
  go_ret2
  exact ⟨rfl, rfl⟩
/-- The empty text. -/
theorem cir_empty (s : ByteArray) (m : Int) (hm : 1 ≤ m) (hs : s.size = 0) (w : World) :
    Calls Tryd.prog 7 #[.string s, .int .i64 m] w fun e w' => e = .returned (.tuple #[.bool false, .int .i64 0]) ∧ w' = w := by
  have hs0 : ((s.size : Int) == 0) = true := by simp [hs]
  go_enter Tryd.func7, Tryd.ntmps7
  go_wp2
  go_ret2
  exact ⟨rfl, rfl⟩
/-- A leading 0. -/
theorem cir_zero (s : ByteArray) (m : Int) (hm : 1 ≤ m) (hs : 0 < s.size) (hz : s[0].toNat = 48) (w : World) :
    Calls Tryd.prog 7 #[.string s, .int .i64 m] w fun e w' => e = .returned (.tuple #[.bool false, .int .i64 0]) ∧ w' = w := by
  have hs0 : ((s.size : Int) == 0) = false := beq_eq_false_iff_ne.2 (by omega)
  have hz0 : ((s[0].toNat : Int) == 48) = true := by simp [hz]
  clear hz
  go_enter Tryd.func7, Tryd.ntmps7
  go_wp2
  go_ret2
  exact ⟨rfl, rfl⟩
/-- A byte that is no digit. -/
theorem cir_nodigit (s : ByteArray) (m : Int) (hm : 1 ≤ m) (hs : 0 < s.size) (hmax : s.size ≤ 1048576) (hz : s[0].toNat ≠ 48) (bad : Nat) (hb : bad < s.size) (hbad : s[bad].toNat < 48 ∨ 57 < s[bad].toNat)
    (hok : ∀ j (hj : j < bad), 48 ≤ (s[j]'(by omega)).toNat ∧ (s[j]'(by omega)).toNat ≤ 57) (w : World) :
    Calls Tryd.prog 7 #[.string s, .int .i64 m] w fun e w' => e = .returned (.tuple #[.bool false, .int .i64 0]) ∧ w' = w := by
  have hs0 : ((s.size : Int) == 0) = false := beq_eq_false_iff_ne.2 (by omega)
  have hz0 : ((s[0].toNat : Int) == 48) = false := by simp; omega
  clear hz
  have Hok := Hid.out (p := Hid (∀ j (hj : j < bad), 48 ≤ (s[j]'(by omega)).toNat ∧ (s[j]'(by omega)).toNat ≤ 57)) hok
  have Hbad : Hid (s[bad].toNat < 48 ∨ 57 < s[bad].toNat) := hbad
  clear hok hbad
  go_enter Tryd.func7, Tryd.ntmps7
  go_wp2
  go_loop [6] (fun i => ∃ k : Nat, k ≤ bad ∧ i = .int .i64 k) (fun i => bad - (intOf i).toNat)
  case atStart => exact ⟨0, Nat.zero_le _, rfl⟩
  case round =>
    obtain ⟨k, hk, rfl⟩ := hrel
    by_cases hkb : k < bad
    · have hd := Hok.out k hkb
      have hd1 : (48 : Int) ≤ ((s[k]'(by omega)).toNat : Int) := by omega
      have hd2 : ((s[k]'(by omega)).toNat : Int) ≤ 57 := by omega
      have hlt : (k : Int) < (s.size : Int) := by omega
      clear hd
      go_wp2
      go_round
      case rel => exact ⟨k + 1, by omega, by go_num⟩
      case measure => simp [intOf]; omega
    · obtain rfl : k = bad := by omega
      have hlt : (k : Int) < (s.size : Int) := by omega
      rcases Hbad.out with h | h
      · have h' : ((s[k]'(by omega)).toNat : Int) < 48 := by omega
        clear h
        go_wp2
        go_ret2
        exact ⟨rfl, rfl⟩
      · have h1 : (48 : Int) ≤ ((s[k]'(by omega)).toNat : Int) := by omega
        have h2 : (57 : Int) < ((s[k]'(by omega)).toNat : Int) := by omega
        clear h
        go_wp2
        go_ret2
        exact ⟨rfl, rfl⟩

theorem at_data (s : ByteArray) (k : Nat) (h : k < s.size) : s[k] = s.data.toList[k]'(by simpa using h) := rfl

/-- Two lists of one length are one, or there is a first place where they part. -/
theorem first_diff : ∀ (l m : List UInt8), l.length = m.length → l = m ∨ ∃ j, ∃ (h1 : j < l.length) (h2 : j < m.length), l.take j = m.take j ∧ l[j] ≠ m[j]
  | [], [], _ => .inl rfl
  | [], _ :: _, h => by simp at h
  | _ :: _, [], h => by simp at h
  | a :: l, b :: m, h => by
    by_cases e : a = b
    · subst e
      rcases first_diff l m (by simpa using h) with rfl | ⟨j, h1, h2, h3, h4⟩
      · exact .inl rfl
      · exact .inr ⟨j + 1, by simpa using h1, by simpa using h2, by simp [h3], by simpa using h4⟩
    · exact .inr ⟨0, by simp, by simp, by simp, by simpa using e⟩

theorem size_mk (l : List UInt8) : (⟨l.toArray⟩ : ByteArray).size = l.length := by simp [ByteArray.size]

theorem take_all (s : ByteArray) : s.data.toList.take s.size = s.data.toList := List.take_of_length_le (by rw [Array.length_toList]; exact Nat.le_refl _)

theorem ret_pair {b : Bool} {a c : Int} (h : a = c) : Ending.returned (.tuple #[.bool b, .int .i64 a]) = .returned (.tuple #[.bool b, .int .i64 c]) := by rw [h]
theorem bytes_at (ms : ByteArray) (l : List UInt8) (h : ms = ⟨l.toArray⟩) (k : Nat) (hk : k < ms.size) : ms[k] = l[k]'(by rw [h, size_mk] at hk; exact hk) := by subst h; rfl

/-- What loop 3 gathers. -/
theorem val_step (s : ByteArray) (k : Nat) (h : k < s.size) : Pl.val 0 (s.data.toList.take (k + 1)) = Pl.val 0 (s.data.toList.take k) * 10 + (s[k].toNat - 48) := by
  rw [List.take_succ_eq_append_getElem (by simpa using h), Pl.val_snoc]; rfl

set_option maxHeartbeats 1000000 in
/-- The text is a numeral of fewer digits than max's. -/
theorem cir_short (s : ByteArray) (m : Nat) (hm : 1 ≤ m) (hm2 : m < 9223372036854775808) (hs : 0 < s.size) (hmax : s.size ≤ 1048576) (hz : s[0].toNat ≠ 48)
    (hd : ∀ j (hj : j < s.size), 48 ≤ s[j].toNat ∧ s[j].toNat ≤ 57) (hlen : s.size < (Lib.decDigits m).length) (hv : Pl.val 0 s.data.toList ≤ m) (w : World) :
    Calls Tryd.prog 7 #[.string s, .int .i64 m] w fun e w' => e = .returned (.tuple #[.bool true, .int .i64 (Pl.val 0 s.data.toList : Nat)]) ∧ Below w.heap.size w w' := by
  have hs0 : ((s.size : Int) == 0) = false := beq_eq_false_iff_ne.2 (by omega)
  have hz0 : ((s[0].toNat : Int) == 48) = false := beq_eq_false_iff_ne.2 (by omega)
  have hm1 : ¬ ((m : Int) < 1) := by omega
  have Hd : Hid (∀ j (hj : j < s.size), 48 ≤ s[j].toNat ∧ s[j].toNat ≤ 57) := hd
  have Hv : Hid (Pl.val 0 s.data.toList ≤ m) := hv
  clear hv
  have Hlen : Hid (s.size < (Lib.decDigits m).length) := hlen
  clear hlen
  clear hz hd
  go_enter Tryd.func7, Tryd.ntmps7
  go_wp2
  go_loop [6] (fun i => ∃ k : Nat, k ≤ s.size ∧ i = .int .i64 k) (fun i => s.size - (intOf i).toNat)
  case atStart => exact ⟨0, Nat.zero_le _, rfl⟩
  case round =>
    obtain ⟨k, hk, rfl⟩ := hrel
    by_cases hkb : k < s.size
    · have hd := Hd.out k hkb
      have hd1 : (48 : Int) ≤ ((s[k]'(by omega)).toNat : Int) := by omega
      have hd2 : ((s[k]'(by omega)).toNat : Int) ≤ 57 := by omega
      have hlt : (k : Int) < (s.size : Int) := by omega
      clear hd
      go_wp2
      go_round
      case rel => exact ⟨k + 1, by omega, by go_num⟩
      case measure => simp [intOf]; omega
    · obtain rfl : k = s.size := by omega
      clear hk hkb
      go_wp2_with (go_at_call 9; refine (dec_any m hm2 _).mono ?_; rintro e w1 ⟨ms, rfl, Hms, hb1⟩; refine Hid.out ?_)
      have hl1 : s.size < ms.size := by rw [Hms.out, size_mk]; exact Hlen.out
      have hl2 : ((s.size : Int) == (ms.size : Int)) = false := beq_eq_false_iff_ne.2 (by omega)
      have hl3 : ¬ ((ms.size : Int) < (s.size : Int)) := by omega
      refine Lib.hid ?_
      go_wp2
      go_loopw [9, 10] (fun n i wx => ∃ (k V : Nat), k ≤ s.size ∧ i = .int .i64 k ∧ n = .int .i64 V ∧ Hid (V = Pl.val 0 (s.data.toList.take k)) ∧ Below w.heap.size w wx) (fun _ i _ => s.size - (intOf i).toNat)
      case atStart => exact ⟨0, 0, Nat.zero_le _, rfl, rfl, rfl, hb1⟩
      case round =>
        obtain ⟨k, V, hk, rfl, rfl, HV, hbx⟩ := hrel
        by_cases hkb : k < s.size
        · have hd := Hd.out k hkb
          have hd1 : (48 : Int) ≤ ((s[k]'(by omega)).toNat : Int) := by omega
          have hd2 : ((s[k]'(by omega)).toNat : Int) ≤ 57 := by omega
          have hstep := val_step s k hkb
          have hle := Pl.val_take_le s.data.toList (k + 1)
          have hmm := Hv.out
          rw [← HV.out] at hstep
          have hb2 : (V : Int) * 10 + ((s[k].toNat : Int) - 48) ≤ 9223372036854775807 := by omega
          have HS : Hid (Pl.val 0 (s.data.toList.take (k + 1)) = V * 10 + (s[k].toNat - 48)) := hstep
          clear hd hstep hle hmm
          go_wp2
          go_roundw
          case rel => exact ⟨k + 1, V * 10 + (s[k].toNat - 48), by omega, by go_num, by rw [Int.natCast_add, Int.natCast_mul, Int.natCast_sub (by omega)]; rfl, HS.out.symm, hbx⟩
          case measure => simp [intOf]; omega
        · obtain rfl : k = s.size := by omega
          go_wp2
          go_ret2
          exact ⟨ret_pair (by rw [HV.out, take_all]), hbx⟩

set_option maxHeartbeats 1000000 in
/-- The text is a numeral of more digits than max's. -/
theorem cir_long (s : ByteArray) (m : Nat) (hm : 1 ≤ m) (hm2 : m < 9223372036854775808) (hs : 0 < s.size) (hmax : s.size ≤ 1048576) (hz : s[0].toNat ≠ 48)
    (hd : ∀ j (hj : j < s.size), 48 ≤ s[j].toNat ∧ s[j].toNat ≤ 57) (hlen : (Lib.decDigits m).length < s.size) (w : World) :
    Calls Tryd.prog 7 #[.string s, .int .i64 m] w fun e w' => e = .returned (.tuple #[.bool false, .int .i64 0]) ∧ Below w.heap.size w w' := by
  have hs0 : ((s.size : Int) == 0) = false := beq_eq_false_iff_ne.2 (by omega)
  have hz0 : ((s[0].toNat : Int) == 48) = false := beq_eq_false_iff_ne.2 (by omega)
  have hm1 : ¬ ((m : Int) < 1) := by omega
  have Hd : Hid (∀ j (hj : j < s.size), 48 ≤ s[j].toNat ∧ s[j].toNat ≤ 57) := hd
  have Hlen : Hid ((Lib.decDigits m).length < s.size) := hlen
  clear hlen
  clear hz hd
  go_enter Tryd.func7, Tryd.ntmps7
  go_wp2
  go_loop [6] (fun i => ∃ k : Nat, k ≤ s.size ∧ i = .int .i64 k) (fun i => s.size - (intOf i).toNat)
  case atStart => exact ⟨0, Nat.zero_le _, rfl⟩
  case round =>
    obtain ⟨k, hk, rfl⟩ := hrel
    by_cases hkb : k < s.size
    · have hd := Hd.out k hkb
      have hd1 : (48 : Int) ≤ ((s[k]'(by omega)).toNat : Int) := by omega
      have hd2 : ((s[k]'(by omega)).toNat : Int) ≤ 57 := by omega
      have hlt : (k : Int) < (s.size : Int) := by omega
      clear hd
      go_wp2
      go_round
      case rel => exact ⟨k + 1, by omega, by go_num⟩
      case measure => simp [intOf]; omega
    · obtain rfl : k = s.size := by omega
      clear hk hkb
      go_wp2_with (go_at_call 9; refine (dec_any m hm2 _).mono ?_; rintro e w1 ⟨ms, rfl, Hms, hb1⟩; refine Hid.out ?_)
      have hl1 : ms.size < s.size := by rw [Hms.out, size_mk]; exact Hlen.out
      refine Lib.hid ?_
      go_wp2
      go_ret2
      exact ⟨rfl, hb1⟩

set_option maxHeartbeats 1000000 in
/-- As many digits; at the first place where they part the text's digit is the greater. -/
theorem cir_more (s : ByteArray) (m : Nat) (hm : 1 ≤ m) (hm2 : m < 9223372036854775808) (hs : 0 < s.size) (hmax : s.size ≤ 1048576) (hz : s[0].toNat ≠ 48)
    (hd : ∀ j (hj : j < s.size), 48 ≤ s[j].toNat ∧ s[j].toNat ≤ 57) (hlen : s.size = (Lib.decDigits m).length) (j : Nat) (hj : j < s.size) (hj2 : j < (Lib.decDigits m).length) (hp : ∀ k (_ : k < j) (h1 : k < s.size) (h2 : k < (Lib.decDigits m).length), s[k] = (Lib.decDigits m)[k]) (hgt : (Lib.decDigits m)[j].toNat < s[j].toNat) (w : World) :
    Calls Tryd.prog 7 #[.string s, .int .i64 m] w fun e w' => e = .returned (.tuple #[.bool false, .int .i64 0]) ∧ Below w.heap.size w w' := by
  have hs0 : ((s.size : Int) == 0) = false := beq_eq_false_iff_ne.2 (by omega)
  have hz0 : ((s[0].toNat : Int) == 48) = false := beq_eq_false_iff_ne.2 (by omega)
  have hm1 : ¬ ((m : Int) < 1) := by omega
  have Hd : Hid (∀ j (hj : j < s.size), 48 ≤ s[j].toNat ∧ s[j].toNat ≤ 57) := hd
  have Hlen : Hid (s.size = (Lib.decDigits m).length) := hlen
  clear hlen
  have Hp : Hid (∀ k (_ : k < j) (h1 : k < s.size) (h2 : k < (Lib.decDigits m).length), s[k] = (Lib.decDigits m)[k]) := hp
  clear hp
  have Hgt : Hid ((Lib.decDigits m)[j].toNat < s[j].toNat) := hgt
  clear hgt
  clear hz hd
  go_enter Tryd.func7, Tryd.ntmps7
  go_wp2
  go_loop [6] (fun i => ∃ k : Nat, k ≤ s.size ∧ i = .int .i64 k) (fun i => s.size - (intOf i).toNat)
  case atStart => exact ⟨0, Nat.zero_le _, rfl⟩
  case round =>
    obtain ⟨k, hk, rfl⟩ := hrel
    by_cases hkb : k < s.size
    · have hd := Hd.out k hkb
      have hd1 : (48 : Int) ≤ ((s[k]'(by omega)).toNat : Int) := by omega
      have hd2 : ((s[k]'(by omega)).toNat : Int) ≤ 57 := by omega
      have hlt : (k : Int) < (s.size : Int) := by omega
      clear hd
      go_wp2
      go_round
      case rel => exact ⟨k + 1, by omega, by go_num⟩
      case measure => simp [intOf]; omega
    · obtain rfl : k = s.size := by omega
      clear hk hkb
      go_wp2_with (go_at_call 9; refine (dec_any m hm2 _).mono ?_; rintro e w1 ⟨ms, rfl, Hms, hb1⟩; refine Hid.out ?_)
      have hl1 : s.size = ms.size := by rw [Hms.out, size_mk]; exact Hlen.out
      have Hl1 : Hid (s.size = ms.size) := hl1
      have hl2 : ((s.size : Int) == (ms.size : Int)) = true := beq_iff_eq.2 (by omega)
      have hl3 : ¬ ((ms.size : Int) < (s.size : Int)) := by omega
      have hl4 : s.size ≤ ms.size := by omega
      clear hl1
      refine Lib.hid ?_
      go_wp2
      go_loopw [8] (fun i wr => ∃ k : Nat, k ≤ j ∧ i = .int .i64 k ∧ Below w.heap.size w wr) (fun i _ => j - (intOf i).toNat)
      case atStart => exact ⟨0, Nat.zero_le _, rfl, hb1⟩
      case round =>
        obtain ⟨k, hk, rfl, hb2⟩ := hrel
        by_cases hkj : k < j
        · have hlt : (k : Int) < (s.size : Int) := by omega
          have hlt2 : (k : Int) < (ms.size : Int) := by omega
          have hne : ((s[k].toNat : Int) != (ms[k].toNat : Int)) = false := by
            have := Hp.out k hkj (by omega) (by rw [← size_mk, ← Hms.out]; omega)
            rw [this, bytes_at ms _ Hms.out k (by omega)]; simp
          go_wp2_with fail
          go_quiet (fail)
          go_wp2
          go_roundw
          case rel => exact ⟨k + 1, by omega, by go_num, below_drewN hb2 _⟩
          case measure => simp [intOf]; omega
        · obtain rfl : k = j := by omega
          clear hk hkj
          have hlt : (k : Int) < (s.size : Int) := by omega
          have hlt2 : (k : Int) < (ms.size : Int) := by omega
          have hgt := Hgt.out
          rw [← bytes_at ms _ Hms.out k (by omega)] at hgt
          have hne : ((s[k].toNat : Int) != (ms[k].toNat : Int)) = true := bne_iff_ne.2 (by omega)
          have hgt2 : (ms[k].toNat : Int) < (s[k].toNat : Int) := by omega
          clear hgt
          go_wp2_with fail
          go_quiet (fail)
          go_wp2_with fail
          go_quiet (fail)
          go_wp2
          go_ret2
          exact ⟨rfl, below_drewN (below_drewN hb2 _) _⟩

set_option maxHeartbeats 1000000 in
/-- As many digits; at the first place where they part the text's digit is the smaller. -/
theorem cir_less (s : ByteArray) (m : Nat) (hm : 1 ≤ m) (hm2 : m < 9223372036854775808) (hs : 0 < s.size) (hmax : s.size ≤ 1048576) (hz : s[0].toNat ≠ 48)
    (hd : ∀ j (hj : j < s.size), 48 ≤ s[j].toNat ∧ s[j].toNat ≤ 57) (hlen : s.size = (Lib.decDigits m).length) (j : Nat) (hj : j < s.size) (hj2 : j < (Lib.decDigits m).length) (hp : ∀ k (_ : k < j) (h1 : k < s.size) (h2 : k < (Lib.decDigits m).length), s[k] = (Lib.decDigits m)[k]) (hgt : s[j].toNat < (Lib.decDigits m)[j].toNat) (hv : Pl.val 0 s.data.toList ≤ m) (w : World) :
    Calls Tryd.prog 7 #[.string s, .int .i64 m] w fun e w' => e = .returned (.tuple #[.bool true, .int .i64 (Pl.val 0 s.data.toList : Nat)]) ∧ Below w.heap.size w w' := by
  have hs0 : ((s.size : Int) == 0) = false := beq_eq_false_iff_ne.2 (by omega)
  have hz0 : ((s[0].toNat : Int) == 48) = false := beq_eq_false_iff_ne.2 (by omega)
  have hm1 : ¬ ((m : Int) < 1) := by omega
  have Hd : Hid (∀ j (hj : j < s.size), 48 ≤ s[j].toNat ∧ s[j].toNat ≤ 57) := hd
  have Hv : Hid (Pl.val 0 s.data.toList ≤ m) := hv
  clear hv
  have Hlen : Hid (s.size = (Lib.decDigits m).length) := hlen
  clear hlen
  have Hp : Hid (∀ k (_ : k < j) (h1 : k < s.size) (h2 : k < (Lib.decDigits m).length), s[k] = (Lib.decDigits m)[k]) := hp
  clear hp
  have Hgt : Hid (s[j].toNat < (Lib.decDigits m)[j].toNat) := hgt
  clear hgt
  clear hz hd
  go_enter Tryd.func7, Tryd.ntmps7
  go_wp2
  go_loop [6] (fun i => ∃ k : Nat, k ≤ s.size ∧ i = .int .i64 k) (fun i => s.size - (intOf i).toNat)
  case atStart => exact ⟨0, Nat.zero_le _, rfl⟩
  case round =>
    obtain ⟨k, hk, rfl⟩ := hrel
    by_cases hkb : k < s.size
    · have hd := Hd.out k hkb
      have hd1 : (48 : Int) ≤ ((s[k]'(by omega)).toNat : Int) := by omega
      have hd2 : ((s[k]'(by omega)).toNat : Int) ≤ 57 := by omega
      have hlt : (k : Int) < (s.size : Int) := by omega
      clear hd
      go_wp2
      go_round
      case rel => exact ⟨k + 1, by omega, by go_num⟩
      case measure => simp [intOf]; omega
    · obtain rfl : k = s.size := by omega
      clear hk hkb
      go_wp2_with (go_at_call 9; refine (dec_any m hm2 _).mono ?_; rintro e w1 ⟨ms, rfl, Hms, hb1⟩; refine Hid.out ?_)
      have hl1 : s.size = ms.size := by rw [Hms.out, size_mk]; exact Hlen.out
      have Hl1 : Hid (s.size = ms.size) := hl1
      have hl2 : ((s.size : Int) == (ms.size : Int)) = true := beq_iff_eq.2 (by omega)
      have hl3 : ¬ ((ms.size : Int) < (s.size : Int)) := by omega
      have hl4 : s.size ≤ ms.size := by omega
      clear hl1
      refine Lib.hid ?_
      go_wp2
      go_loopw [8] (fun i wr => ∃ k : Nat, k ≤ j ∧ i = .int .i64 k ∧ Below w.heap.size w wr) (fun i _ => j - (intOf i).toNat)
      case atStart => exact ⟨0, Nat.zero_le _, rfl, hb1⟩
      case round =>
        obtain ⟨k, hk, rfl, hb2⟩ := hrel
        by_cases hkj : k < j
        · have hlt : (k : Int) < (s.size : Int) := by omega
          have hlt2 : (k : Int) < (ms.size : Int) := by omega
          have hne : ((s[k].toNat : Int) != (ms[k].toNat : Int)) = false := by
            have := Hp.out k hkj (by omega) (by rw [← size_mk, ← Hms.out]; omega)
            rw [this, bytes_at ms _ Hms.out k (by omega)]; simp
          go_wp2_with fail
          go_quiet (fail)
          go_wp2
          go_roundw
          case rel => exact ⟨k + 1, by omega, by go_num, below_drewN hb2 _⟩
          case measure => simp [intOf]; omega
        · obtain rfl : k = j := by omega
          clear hk hkj
          have hlt : (k : Int) < (s.size : Int) := by omega
          have hlt2 : (k : Int) < (ms.size : Int) := by omega
          have hgt := Hgt.out
          rw [← bytes_at ms _ Hms.out k (by omega)] at hgt
          have hne : ((s[k].toNat : Int) != (ms[k].toNat : Int)) = true := bne_iff_ne.2 (by omega)
          have hgt2 : ¬ ((ms[k].toNat : Int) < (s[k].toNat : Int)) := by omega
          clear hgt
          go_wp2_with fail
          go_quiet (fail)
          go_wp2_with fail
          go_quiet (fail)
          go_wp2
          go_loopw [9, 10] (fun n i wx => ∃ (k V : Nat), k ≤ s.size ∧ i = .int .i64 k ∧ n = .int .i64 V ∧ Hid (V = Pl.val 0 (s.data.toList.take k)) ∧ Below w.heap.size w wx) (fun _ i _ => s.size - (intOf i).toNat)
          case atStart => exact ⟨0, 0, Nat.zero_le _, rfl, rfl, rfl, below_drewN (below_drewN hb2 _) _⟩
          case round =>
            obtain ⟨k, V, hk, rfl, rfl, HV, hbx⟩ := hrel
            by_cases hkb : k < s.size
            · have hd := Hd.out k hkb
              have hd1 : (48 : Int) ≤ ((s[k]'(by omega)).toNat : Int) := by omega
              have hd2 : ((s[k]'(by omega)).toNat : Int) ≤ 57 := by omega
              have hstep := val_step s k hkb
              have hle := Pl.val_take_le s.data.toList (k + 1)
              have hmm := Hv.out
              rw [← HV.out] at hstep
              have hb2 : (V : Int) * 10 + ((s[k].toNat : Int) - 48) ≤ 9223372036854775807 := by omega
              have HS : Hid (Pl.val 0 (s.data.toList.take (k + 1)) = V * 10 + (s[k].toNat - 48)) := hstep
              clear hd hstep hle hmm
              go_wp2
              go_roundw
              case rel => exact ⟨k + 1, V * 10 + (s[k].toNat - 48), by omega, by go_num, by rw [Int.natCast_add, Int.natCast_mul, Int.natCast_sub (by omega)]; rfl, HS.out.symm, hbx⟩
              case measure => simp [intOf]; omega
            · obtain rfl : k = s.size := by omega
              go_wp2
              go_ret2
              exact ⟨ret_pair (by rw [HV.out, take_all]), hbx⟩

set_option maxHeartbeats 1000000 in
/-- The text is max's own numeral. -/
theorem cir_same (s : ByteArray) (m : Nat) (hm : 1 ≤ m) (hm2 : m < 9223372036854775808) (hs : 0 < s.size) (hmax : s.size ≤ 1048576) (hz : s[0].toNat ≠ 48)
    (hd : ∀ j (hj : j < s.size), 48 ≤ s[j].toNat ∧ s[j].toNat ≤ 57) (hsame : s.data.toList = Lib.decDigits m) (hv : Pl.val 0 s.data.toList ≤ m) (w : World) :
    Calls Tryd.prog 7 #[.string s, .int .i64 m] w fun e w' => e = .returned (.tuple #[.bool true, .int .i64 (Pl.val 0 s.data.toList : Nat)]) ∧ Below w.heap.size w w' := by
  have hs0 : ((s.size : Int) == 0) = false := beq_eq_false_iff_ne.2 (by omega)
  have hz0 : ((s[0].toNat : Int) == 48) = false := beq_eq_false_iff_ne.2 (by omega)
  have hm1 : ¬ ((m : Int) < 1) := by omega
  have Hd : Hid (∀ j (hj : j < s.size), 48 ≤ s[j].toNat ∧ s[j].toNat ≤ 57) := hd
  have Hv : Hid (Pl.val 0 s.data.toList ≤ m) := hv
  clear hv
  have hlen : s.size = (Lib.decDigits m).length := by rw [← hsame, Array.length_toList]; rfl
  have Hlen : Hid (s.size = (Lib.decDigits m).length) := hlen
  clear hlen
  have Hsame : Hid (s.data.toList = Lib.decDigits m) := hsame
  clear hsame
  clear hz hd
  go_enter Tryd.func7, Tryd.ntmps7
  go_wp2
  go_loop [6] (fun i => ∃ k : Nat, k ≤ s.size ∧ i = .int .i64 k) (fun i => s.size - (intOf i).toNat)
  case atStart => exact ⟨0, Nat.zero_le _, rfl⟩
  case round =>
    obtain ⟨k, hk, rfl⟩ := hrel
    by_cases hkb : k < s.size
    · have hd := Hd.out k hkb
      have hd1 : (48 : Int) ≤ ((s[k]'(by omega)).toNat : Int) := by omega
      have hd2 : ((s[k]'(by omega)).toNat : Int) ≤ 57 := by omega
      have hlt : (k : Int) < (s.size : Int) := by omega
      clear hd
      go_wp2
      go_round
      case rel => exact ⟨k + 1, by omega, by go_num⟩
      case measure => simp [intOf]; omega
    · obtain rfl : k = s.size := by omega
      clear hk hkb
      go_wp2_with (go_at_call 9; refine (dec_any m hm2 _).mono ?_; rintro e w1 ⟨ms, rfl, Hms, hb1⟩; refine Hid.out ?_)
      have hl1 : s.size = ms.size := by rw [Hms.out, size_mk]; exact Hlen.out
      have Hl1 : Hid (s.size = ms.size) := hl1
      have hl2 : ((s.size : Int) == (ms.size : Int)) = true := beq_iff_eq.2 (by omega)
      have hl3 : ¬ ((ms.size : Int) < (s.size : Int)) := by omega
      have hl4 : s.size ≤ ms.size := by omega
      clear hl1
      refine Lib.hid ?_
      go_wp2
      go_loopw [8] (fun i wr => ∃ k : Nat, k ≤ s.size ∧ i = .int .i64 k ∧ Below w.heap.size w wr) (fun i _ => s.size - (intOf i).toNat)
      case atStart => exact ⟨0, Nat.zero_le _, rfl, hb1⟩
      case round =>
        obtain ⟨k, hk, rfl, hb2⟩ := hrel
        by_cases hkj : k < s.size
        · have hlt : (k : Int) < (s.size : Int) := by omega
          have hlt2 : (k : Int) < (ms.size : Int) := by omega
          have hne : ((s[k].toNat : Int) != (ms[k].toNat : Int)) = false := by
            rw [bytes_at ms _ Hms.out k (by omega), at_data s k (by omega)]
            simp [Hsame.out]
          go_wp2_with fail
          go_quiet (fail)
          go_wp2
          go_roundw
          case rel => exact ⟨k + 1, by omega, by go_num, below_drewN hb2 _⟩
          case measure => simp [intOf]; omega
        · obtain rfl : k = s.size := by omega
          clear hk hkj
          go_wp2
          go_loopw [9, 10] (fun n i wx => ∃ (k V : Nat), k ≤ s.size ∧ i = .int .i64 k ∧ n = .int .i64 V ∧ Hid (V = Pl.val 0 (s.data.toList.take k)) ∧ Below w.heap.size w wx) (fun _ i _ => s.size - (intOf i).toNat)
          case atStart => exact ⟨0, 0, Nat.zero_le _, rfl, rfl, rfl, hb2⟩
          case round =>
            obtain ⟨k, V, hk, rfl, rfl, HV, hbx⟩ := hrel
            by_cases hkb : k < s.size
            · have hd := Hd.out k hkb
              have hd1 : (48 : Int) ≤ ((s[k]'(by omega)).toNat : Int) := by omega
              have hd2 : ((s[k]'(by omega)).toNat : Int) ≤ 57 := by omega
              have hstep := val_step s k hkb
              have hle := Pl.val_take_le s.data.toList (k + 1)
              have hmm := Hv.out
              rw [← HV.out] at hstep
              have hb2 : (V : Int) * 10 + ((s[k].toNat : Int) - 48) ≤ 9223372036854775807 := by omega
              have HS : Hid (Pl.val 0 (s.data.toList.take (k + 1)) = V * 10 + (s[k].toNat - 48)) := hstep
              clear hd hstep hle hmm
              go_wp2
              go_roundw
              case rel => exact ⟨k + 1, V * 10 + (s[k].toNat - 48), by omega, by go_num, by rw [Int.natCast_add, Int.natCast_mul, Int.natCast_sub (by omega)]; rfl, HS.out.symm, hbx⟩
              case measure => simp [intOf]; omega
            · obtain rfl : k = s.size := by omega
              go_wp2
              go_ret2
              exact ⟨ret_pair (by rw [HV.out, take_all]), hbx⟩

end Go.Proofs.Qxb6002900aDoor
