/-
  DERIVED. THE LIBRARY's FUNCTIONS ON THE ROAD, each by its contract, in the form in which the walks of this seat want it.
-/
import Derived.Test.Qxb6002900aDoorCir
import Derived.Test.Qxb6002900aDoorShelf
import Derived.WalkSmall
import Derived.Lib.DecodeN
namespace Go.Proofs.Qxb6002900aDoor
open Go.RowKit Go.Shelf

/-- The table's name, off the given row. -/
def powName : String := Rows.fnWindowStringThenSetTextRoundTripRow.named.getD 0 ""
theorem gPow : Tryd.prog.globalNamed powName = some 2 := by kernel_rfl
theorem gSyn : Tryd.prog.globalNamed "strconv.ErrSyntax" = some 0 := by kernel_rfl
theorem gRan : Tryd.prog.globalNamed "strconv.ErrRange" = some 1 := by kernel_rfl

/-- WHAT THE ROW's CONDITION GIVES THE WALKS: the two sentinels hold values of an interface; the table holds the powers of ten. -/
structure Laid (w : World) : Prop where
  syn : ∃ tp p, w.var? Tryd.prog "strconv.ErrSyntax" = some #[.iface tp p]
  ran : ∃ tp p, w.var? Tryd.prog "strconv.ErrRange" = some #[.iface tp p]
  pow : Lib.TabIs Tryd.prog w powName .u64 Lib.pow10Tab
  low : 2 < w.heap.size

theorem Laid.below {w w' : World} {B : Nat} (h : Laid w) (hb : Below B w w') (hB : 2 < B) : Laid w' := by
  obtain ⟨⟨t1, p1, h1⟩, ⟨t2, p2, h2⟩, h3, h4⟩ := h
  exact ⟨⟨t1, p1, var?_below hb gSyn (by omega) h1⟩, ⟨t2, p2, var?_below hb gRan (by omega) h2⟩, var?_below hb gPow hB h3, Nat.lt_of_lt_of_le h4 hb.size⟩

/-! ### strings.HasPrefix(text, "0") -/
theorem prefix_any (s : ByteArray) (w : World) :
    Calls Tryd.prog 12 #[.string s, .string ⟨#[48]⟩] w fun e w' => e = .returned (.bool (decide (s.data.toList.head? = some 48))) ∧ w' = w := by
  refine (Any.strings_HasPrefix Tryd.lays99 s ⟨#[48]⟩ w).mono fun e w' ⟨he, hw⟩ => ⟨?_, hw⟩
  rw [he]
  congr 2
  show Lib.hasPrefix s.data.toList [48] = _
  unfold Lib.hasPrefix
  cases h : s.data.toList with
  | nil => rfl
  | cons c r =>
    simp [List.isPrefixOf]
    rw [Bool.eq_iff_iff]; simp; exact eq_comm

/-! ### strings.ContainsFunc(text, notDigit) -/
def notDig (n : Nat) : Bool := decide (n < 48 ∨ 57 < n)

theorem notDigit_calls (x : Nat) (W : World) : Calls Tryd.prog 14 #[.int .i32 (x : Int)] W fun e w' => e = .returned (.bool (notDig x)) ∧ w' = W := by
  by_cases h1 : (x : Int) < 48
  · have hn : notDig x = true := by simp [notDig]; omega
    rw [hn]
    go_enter Tryd.func14, Tryd.ntmps14
    go_wp2
    go_ret
    exact ⟨rfl, rfl⟩
  · by_cases h2 : (57 : Int) < (x : Int)
    · have hn : notDig x = true := by simp [notDig]; omega
      rw [hn]
      go_enter Tryd.func14, Tryd.ntmps14
      go_wp2
      go_ret
      exact ⟨rfl, rfl⟩
    · have hn : notDig x = false := by simp [notDig]; omega
      rw [hn]
      go_enter Tryd.func14, Tryd.ntmps14
      go_wp2
      go_ret
      exact ⟨rfl, rfl⟩

theorem notDigit_at (w : World) : PredAt Tryd.prog 14 #[] encR notDig w := fun W x _ => by
  refine (notDigit_calls x W).mono fun e w' ⟨he, hw⟩ => ⟨he, 0, ?_⟩
  rw [hw]; rfl

theorem decode_digit (s : ByteArray) (i : Nat) (h : (s.get! i).toNat < 128) : Utf8.decode s i = ((s.get! i).toNat, 1) := by
  rw [Lib.decode_at]; unfold Lib.decodeN; rw [if_pos h]
theorem decode_high (s : ByteArray) (i : Nat) (h : 128 ≤ (s.get! i).toNat) : 128 ≤ (Utf8.decode s i).1 := by
  rw [Lib.decode_at]; unfold Lib.decodeN
  repeat' split
  all_goals (simp only; omega)
theorem get!_at (s : ByteArray) (i : Nat) (h : i < s.size) : s.get! i = s[i] := by
  cases s with | mk d =>
  show d[i]! = d[i]
  exact getElem!_pos d i h

theorem idx_no (s : ByteArray) (hd : ∀ j (hj : j < s.size), 48 ≤ s[j].toNat ∧ s[j].toNat ≤ 57) : ∀ f pos, Lib.idxFuncFrom notDig true s f pos = -1 := by
  intro f
  induction f with
  | zero => intro pos; rfl
  | succ f ih =>
    intro pos
    unfold Lib.idxFuncFrom
    split
    · rename_i hp
      have hc := hd pos hp
      rw [decode_digit s pos (by rw [get!_at s pos hp]; omega), get!_at s pos hp]
      rw [if_neg (by simp [notDig]; omega)]
      exact ih _
    · rfl
theorem idx_yes (s : ByteArray) (bad : Nat) (hb : bad < s.size) (hbad : s[bad].toNat < 48 ∨ 57 < s[bad].toNat) (hok : ∀ j (hj : j < bad), 48 ≤ (s[j]'(by omega)).toNat ∧ (s[j]'(by omega)).toNat ≤ 57) :
    ∀ f pos, pos ≤ bad → bad < pos + f → 0 ≤ Lib.idxFuncFrom notDig true s f pos := by
  intro f
  induction f with
  | zero => intro pos h1 h2; omega
  | succ f ih =>
    intro pos h1 h2
    unfold Lib.idxFuncFrom
    rw [if_pos (by omega)]
    by_cases hlt : pos < bad
    · have hc := hok pos hlt
      rw [decode_digit s pos (by rw [get!_at s pos (by omega)]; omega), get!_at s pos (by omega)]
      rw [if_neg (by simp [notDig]; omega)]
      exact ih _ (by simp only; omega) (by simp only; omega)
    · obtain rfl : pos = bad := by omega
      rw [if_pos]
      · omega
      · by_cases h : (s.get! pos).toNat < 128
        · rw [decode_digit s pos h, get!_at s pos hb]; simpa [notDig] using hbad
        · have := decode_high s pos (by omega)
          simp [notDig]; omega

theorem enter14 (args : Array Value) (w : World) : (callFunc 14 args).run Tryd.prog w = .ok (.enter 14 args) w := enters_of Tryd.func14 (by kernel_rfl) rfl args w

theorem contains_no (s : ByteArray) (hd : ∀ j (hj : j < s.size), 48 ≤ s[j].toNat ∧ s[j].toNat ≤ 57) (w : World) :
    Calls Tryd.prog 13 #[.string s, .func (.func 14) #[] #[]] w fun e w' => e = .returned (.bool false) ∧ Below w.heap.size w w' := by
  refine (Any.strings_ContainsFunc Tryd.laysGw17 14 #[] enter14 notDig s w (notDigit_at w)).mono fun e w' ⟨he, hb⟩ => ⟨?_, hb⟩
  rw [he, show Lib.idxFunc notDig true s = -1 from idx_no s hd _ _]; rfl
theorem contains_yes (s : ByteArray) (bad : Nat) (hb : bad < s.size) (hbad : s[bad].toNat < 48 ∨ 57 < s[bad].toNat) (hok : ∀ j (hj : j < bad), 48 ≤ (s[j]'(by omega)).toNat ∧ (s[j]'(by omega)).toNat ≤ 57) (w : World) :
    Calls Tryd.prog 13 #[.string s, .func (.func 14) #[] #[]] w fun e w' => e = .returned (.bool true) ∧ Below w.heap.size w w' := by
  refine (Any.strings_ContainsFunc Tryd.laysGw17 14 #[] enter14 notDig s w (notDigit_at w)).mono fun e w' ⟨he, hbw⟩ => ⟨?_, hbw⟩
  have h0 : 0 ≤ Lib.idxFunc notDig true s := idx_yes s bad hb hbad hok _ _ (by omega) (by omega)
  rw [he, decide_eq_true h0]

/-! ### strconv.ParseInt(text, 10, 64) -/
theorem parse_ok (s : ByteArray) (hs : s.size ≤ 1048576) (v : Int) (h : Lib.parseIntB 64 s.data.toList = .ok v) (w : World) :
    Calls Tryd.prog 15 #[.string s, .int .i64 10, .int .i64 64] w fun e w' => e = .returned (.tuple #[.int .i64 v, .nilIface]) ∧ Below w.heap.size w w' := by
  refine (Any.strconv_ParseInt_10_at64_ok Tryd.laysC174 s (by omega) v h w).mono fun e w' ⟨he, hw⟩ => ⟨he, ?_⟩
  rcases hw with rfl | ⟨t, rfl⟩
  · exact Below.refl _ _
  · exact Lib.bytesWorld_below _ _ _
theorem parse_none (s : ByteArray) (hs : s.size = 0) (w : World) (hL : Laid w) :
    Calls Tryd.prog 15 #[.string s, .int .i64 10, .int .i64 64] w fun e w' => ∃ (v : Int) (N : Nat), e = .returned (.tuple #[.int .i64 v, .iface 54 (.pointer (some ⟨N, 0, none⟩))]) ∧ Below w.heap.size w w' := by
  obtain ⟨tp, p, hv⟩ := hL.syn
  have h0 : s.data.toList = [] := List.length_eq_zero_iff.1 (by rw [Array.length_toList]; exact hs)
  exact (Any.strconv_ParseInt_10_at64_syntax_var Tryd.laysC174 s (by omega) (by rw [h0]; rfl) tp p w hv).mono fun e w' ⟨N, he, _, _, hb⟩ => ⟨_, N, he, hb⟩
theorem parse_range (s : ByteArray) (hs : s.size ≤ 1048576) (h : Lib.parseIntB 64 s.data.toList = .range) (w : World) (hL : Laid w) :
    Calls Tryd.prog 15 #[.string s, .int .i64 10, .int .i64 64] w fun e w' => ∃ (v : Int) (N : Nat), e = .returned (.tuple #[.int .i64 v, .iface 54 (.pointer (some ⟨N, 0, none⟩))]) ∧ Below w.heap.size w w' := by
  obtain ⟨tp, p, hv⟩ := hL.ran
  exact (Any.strconv_ParseInt_10_at64_range_var Tryd.laysC174 s (by omega) h tp p w hv).mono fun e w' ⟨N, he, _, _, hb⟩ => ⟨_, N, he, hb⟩

/-! ### strconv.FormatInt(n, 10) -/
theorem format_any (n : Nat) (hn : n < 9223372036854775808) (w : World) (hL : Laid w) :
    Calls Tryd.prog 16 #[.int .i64 n, .int .i64 10] w fun e w' => e = .returned (.string ⟨(Lib.decDigits n).toArray⟩) ∧ Below w.heap.size w w' := by
  refine (Any.strconv_FormatInt_10 Tryd.laysM173 n (by omega) (by omega) w hL.pow).mono fun e w' ⟨he, k, os, hw⟩ => ⟨?_, ?_⟩
  · rw [he, Lib.itoa_nonneg]
  · rw [hw]; exact below_grown w k os
end Go.Proofs.Qxb6002900aDoor
