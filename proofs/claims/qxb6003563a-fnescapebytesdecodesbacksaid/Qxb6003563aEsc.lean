/-
  DERIVED. THE WALKS of escapeBytes (function 13), its shim (7) and zzB2Unreserved (12).
-/
import Derived.Test.Qxb6003563aRows
import Derived.Test.Qxb6003563aPlain
import Derived.Test.Qxb6003563aShelf
import Derived.WalkKit
import Derived.WalkSpells
import Derived.WalkLawsBesides
import Derived.Lib.Hide
namespace Go.Proofs.Qxb6003563a
open Go.RowKit

theorem wb (B : Nat) (l : List UInt8) (x : UInt8) (z : Int) (hz : z = (x.toNat : Int)) (w : World) (h : Lib.IsBuilder 34 5 B B (Lib.byteCells l) w) (hlen : l.length ≤ 4194304) (hBw : B ≤ w.heap.size) :
    Calls Try.prog 15 #[.pointer (some ⟨B, 0, none⟩), .int .u8 z] w fun e w' => e = .returned .nilIface ∧ Lib.IsBuilder 34 5 B B (Lib.byteCells (l ++ [x])) w' ∧ Below B w w' := by
  subst hz
  refine (Try.writeByte B B (Lib.byteCells l) (x.toNat : Int) w h (by simp [Lib.byteCells]; omega) hBw).mono fun e w' ⟨he, hB, hb⟩ => ⟨he, Or.inr ?_, hb⟩
  have e1 : Lib.byteCells (l ++ [x]) = Lib.byteCells l ++ [.int .u8 (x.toNat : Int)] := by simp [Lib.byteCells]
  rw [e1]; exact hB

theorem hex_fin : ∀ n : Fin 16, ((⟨#[48, 49, 50, 51, 52, 53, 54, 55, 56, 57, 65, 66, 67, 68, 69, 70]⟩ : ByteArray).get! n.val).toNat = (Pl.hexd n.val).toNat := by decide +kernel
theorem hex_at (n : Nat) (h : n < 16) (h' : n < (⟨#[48, 49, 50, 51, 52, 53, 54, 55, 56, 57, 65, 66, 67, 68, 69, 70]⟩ : ByteArray).size) : (((⟨#[48, 49, 50, 51, 52, 53, 54, 55, 56, 57, 65, 66, 67, 68, 69, 70]⟩ : ByteArray)[n]'h').toNat : Int) = ((Pl.hexd n).toNat : Int) := by
  have := hex_fin ⟨n, h⟩
  rw [← this]
  have e : (⟨#[48, 49, 50, 51, 52, 53, 54, 55, 56, 57, 65, 66, 67, 68, 69, 70]⟩ : ByteArray).get! n = (⟨#[48, 49, 50, 51, 52, 53, 54, 55, 56, 57, 65, 66, 67, 68, 69, 70]⟩ : ByteArray)[n]'h' := getElem!_pos #[48, 49, 50, 51, 52, 53, 54, 55, 56, 57, 65, 66, 67, 68, 69, 70] n h'
  rw [e]

theorem take_next (xs : List UInt8) (k : Nat) (h : k < xs.length) : xs.take (k + 1) = xs.take k ++ [xs.getD k 0] := by
  rw [List.take_succ_eq_append_getElem h, List.getD_eq_getElem?_getD, List.getElem?_eq_getElem h]; rfl

set_option maxHeartbeats 1000000 in
theorem escape_some (b n c : Nat) (xs : List UInt8) (w : World) (hb : b < w.heap.size) (hn : n ≤ 1048576) (hxs : xs.length = n) (hc : ∀ j, j < n → w.cell? ⟨b, j, none⟩ = some (.int .u8 ((xs.getD j 0).toNat : Int))) :
    Calls Try.prog 13 #[.slice (some ⟨b, 0, none⟩) n c] w fun e w' => e = .returned (.string ⟨(Pl.esc xs).toArray⟩) ∧ Below w.heap.size w w' := by
  have Hc : Hid (∀ j, j < n → w.cell? ⟨b, j, none⟩ = some (.int .u8 ((xs.getD j 0).toNat : Int))) := hc
  have Hxs : Hid (xs.length = n) := hxs
  clear hc hxs
  go_enter Try.func13, Try.ntmps13
  go_wp2
  go_loopw [8] (fun i wr => ∃ k : Nat, k ≤ n ∧ i = .int .i64 k ∧ Lib.IsBuilder 34 5 w.heap.size w.heap.size (Lib.byteCells (Pl.esc (xs.take k))) wr ∧ Below w.heap.size w wr) (fun i _ => n - (intOf i).toNat)
  case atStart => exact ⟨0, Nat.zero_le _, rfl, Lib.fresh_isBuilder 34 5 w, (Below.refl _ _).alloc (Nat.le_refl _) _⟩
  case round =>
    obtain ⟨k, hk, rfl, hI, hnx⟩ := hrel
    by_cases hlt : k < n
    · obtain ⟨x, hx⟩ : ∃ x, xs.getD k 0 = x := ⟨_, rfl⟩
      have hcell : wr.cell? ⟨b, k, none⟩ = some (.int .u8 (x.toNat : Int)) := by rw [hnx.cell hb, Hc.out k hlt, hx]
      have hxl : k < xs.length := by have := Hxs.out; omega
      have hlen : (Pl.esc (xs.take k)).length ≤ 3145728 := by
        have := (Pl.esc_len (xs.take k)).2
        rw [List.length_take] at this; omega
      have hsz := hnx.size
      have hx255 : (x.toNat : Int) ≤ 255 := by have := x.toNat_lt; omega
      have hl : Pl.esc (xs.take (k + 1)) = Pl.esc (xs.take k) ++ Pl.esc1 x := by rw [take_next xs k hxl, Pl.esc_snoc, hx]
      obtain ⟨L, hL⟩ : ∃ L, Pl.esc (xs.take k) = L := ⟨_, rfl⟩
      rw [hL] at hl hI hlen
      have HL : Hid (Pl.esc (xs.take (k + 1)) = L ++ Pl.esc1 x) := hl
      clear hl hL hx
      cases hu : Pl.unres x
      · have hx2 : ((x.toNat : Int) ≤ 44) ∨ (47 ≤ (x.toNat : Int) ∧ (x.toNat : Int) ≤ 47) ∨ (58 ≤ (x.toNat : Int) ∧ (x.toNat : Int) ≤ 64) ∨ (91 ≤ (x.toNat : Int) ∧ (x.toNat : Int) ≤ 94) ∨ (96 ≤ (x.toNat : Int) ∧ (x.toNat : Int) ≤ 96) ∨ (123 ≤ (x.toNat : Int) ∧ (x.toNat : Int) ≤ 125) ∨ (127 ≤ (x.toNat : Int)) := by
          simp [Pl.unres] at hu; omega
        have Hu : Hid (Pl.unres x = false) := hu
        clear hu
        rcases hx2 with h | ⟨h, h'⟩ | ⟨h, h'⟩ | ⟨h, h'⟩ | ⟨h, h'⟩ | ⟨h, h'⟩ | h
        all_goals
          go_wp2_with (go_at_call 15; refine (wb _ L 37 _ rfl _ hI (by omega) hsz).mono ?_; rintro e w1 ⟨rfl, hI1, hb1⟩; refine Hid.out ?_)
          have hsz1 : w.heap.size ≤ w1.heap.size := by have := hb1.size; omega
          have h16 : 0 ≤ (x.toNat : Int) / 16 ∧ (x.toNat : Int) / 16 < 16 := by omega
          have h17 : 0 ≤ (x.toNat : Int) % 16 ∧ (x.toNat : Int) % 16 < 16 := by omega
          clear hI
          refine Lib.hid ?_
          go_wp2_with (go_at_call 15; refine (wb _ (L ++ [37]) (Pl.hexd (x.toNat / 16)) _ (hex_at _ (by omega) _) _ hI1 (by simp; omega) hsz1).mono ?_; rintro e w2 ⟨rfl, hI2, hb2⟩; refine Hid.out ?_)
          have hsz2 : w.heap.size ≤ w2.heap.size := by have := hb2.size; omega
          clear hI1
          refine Lib.hid ?_
          go_wp2_with (go_at_call 15; refine (wb _ (L ++ [37] ++ [Pl.hexd (x.toNat / 16)]) (Pl.hexd (x.toNat % 16)) _ (hex_at _ (by omega) _) _ hI2 (by simp; omega) hsz2).mono ?_; rintro e w3 ⟨rfl, hI3, hb3⟩)
          go_roundw
          case rel => exact ⟨k + 1, by omega, by go_num, by rw [HL.out, Pl.esc1_no Hu.out]; simpa using hI3, ((hnx.trans hb1).trans hb2).trans hb3⟩
          case measure => simp [intOf]; omega
      · have hx2 : (97 ≤ (x.toNat : Int) ∧ (x.toNat : Int) ≤ 122) ∨ (65 ≤ (x.toNat : Int) ∧ (x.toNat : Int) ≤ 90) ∨ (48 ≤ (x.toNat : Int) ∧ (x.toNat : Int) ≤ 57) ∨ (45 ≤ (x.toNat : Int) ∧ (x.toNat : Int) ≤ 45) ∨ (46 ≤ (x.toNat : Int) ∧ (x.toNat : Int) ≤ 46) ∨ (95 ≤ (x.toNat : Int) ∧ (x.toNat : Int) ≤ 95) ∨ (126 ≤ (x.toNat : Int) ∧ (x.toNat : Int) ≤ 126) := by
          simp [Pl.unres] at hu; omega
        have Hu : Hid (Pl.unres x = true) := hu
        clear hu
        rcases hx2 with ⟨h, h'⟩ | ⟨h, h'⟩ | ⟨h, h'⟩ | ⟨h, h'⟩ | ⟨h, h'⟩ | ⟨h, h'⟩ | ⟨h, h'⟩
        all_goals
          go_wp2_with (go_at_call 15; refine (wb _ L x _ rfl _ hI (by omega) hsz).mono ?_; rintro e w1 ⟨rfl, hI1, hb1⟩)
          go_roundw
          case rel => exact ⟨k + 1, by omega, by go_num, by rw [HL.out, Pl.esc1_yes Hu.out]; exact hI1, hnx.trans hb1⟩
          case measure => simp [intOf]; omega
    · obtain rfl : k = n := by omega
      have hfull : Pl.esc (xs.take k) = Pl.esc xs := by rw [List.take_of_length_le (by have := Hxs.out; omega)]
      rw [hfull] at hI
      have hsz := hnx.size
      clear hfull
      go_wp2_with (go_at_call 16; refine (Try.builderString _ _ _ _ hI hsz).mono ?_; rintro e w1 ⟨rfl, hb1⟩)
      go_ret
      exact ⟨rfl, hnx.trans hb1⟩

theorem escape_nil (w : World) :
    Calls Try.prog 13 #[.slice none 0 0] w fun e w' => e = .returned (.string ⟨(Pl.esc []).toArray⟩) ∧ Below w.heap.size w w' := by
  have hI : Lib.IsBuilder 34 5 w.heap.size w.heap.size (Lib.byteCells []) (w.alloc (.cells #[.pointer none, .slice none 0 0] 34)) := Lib.fresh_isBuilder 34 5 w
  go_enter Try.func13, Try.ntmps13
  go_wp2
  go_loopw [8] (fun i wr => i = .int .i64 0 ∧ Lib.IsBuilder 34 5 w.heap.size w.heap.size (Lib.byteCells []) wr ∧ Below w.heap.size w wr) (fun _ _ => 0)
  case atStart => exact ⟨rfl, hI, (Below.refl _ _).alloc (Nat.le_refl _) _⟩
  case round =>
    obtain ⟨rfl, hI, hnx⟩ := hrel
    have hsz := hnx.size
    go_wp2_with (go_at_call 16; refine (Try.builderString _ _ _ _ hI hsz).mono ?_; rintro e w1 ⟨rfl, hb1⟩)
    go_ret
    exact ⟨rfl, hnx.trans hb1⟩

/-- ZZescapeBytes hands the call on. -/
theorem zz_some (b n c : Nat) (xs : List UInt8) (w : World) (hb : b < w.heap.size) (hn : n ≤ 1048576) (hxs : xs.length = n) (hc : ∀ j, j < n → w.cell? ⟨b, j, none⟩ = some (.int .u8 ((xs.getD j 0).toNat : Int))) :
    Calls Try.prog 7 #[.slice (some ⟨b, 0, none⟩) n c] w fun e w' => ∃ s : ByteArray, e = .returned (.string s) ∧ Hid (s = ⟨(Pl.esc xs).toArray⟩) ∧ Below w.heap.size w w' := by
  have h := escape_some b n c xs w hb hn hxs hc
  clear hc hxs
  go_enter Try.func7, Try.ntmps7
  go_wp2_with (go_at_call 13; refine h.mono ?_; rintro e w1 ⟨rfl, hb1⟩)
  go_ret
  exact ⟨_, rfl, rfl, hb1⟩
theorem zz_nil (w : World) :
    Calls Try.prog 7 #[.slice none 0 0] w fun e w' => ∃ s : ByteArray, e = .returned (.string s) ∧ Hid (s = ⟨(Pl.esc []).toArray⟩) ∧ Below w.heap.size w w' := by
  have h := escape_nil w
  go_enter Try.func7, Try.ntmps7
  go_wp2_with (go_at_call 13; refine h.mono ?_; rintro e w1 ⟨rfl, hb1⟩)
  go_ret
  exact ⟨_, rfl, rfl, hb1⟩

/-! ### zzB2Unreserved -/
theorem unres_any (x : UInt8) (w : World) : Calls Try.prog 12 #[.int .u8 (x.toNat : Int)] w fun e w' => e = .returned (.bool (Pl.unres x)) ∧ w' = w := by
  have hx255 : (x.toNat : Int) ≤ 255 := by have := x.toNat_lt; omega
  cases hu : Pl.unres x
  · have hx2 : ((x.toNat : Int) ≤ 44) ∨ (47 ≤ (x.toNat : Int) ∧ (x.toNat : Int) ≤ 47) ∨ (58 ≤ (x.toNat : Int) ∧ (x.toNat : Int) ≤ 64) ∨ (91 ≤ (x.toNat : Int) ∧ (x.toNat : Int) ≤ 94) ∨ (96 ≤ (x.toNat : Int) ∧ (x.toNat : Int) ≤ 96) ∨ (123 ≤ (x.toNat : Int) ∧ (x.toNat : Int) ≤ 125) ∨ (127 ≤ (x.toNat : Int)) := by
      simp [Pl.unres] at hu; omega
    have e1 : ((x.toNat : Int) == 45) = false := beq_eq_false_iff_ne.2 (by omega)
    have e2 : ((x.toNat : Int) == 46) = false := beq_eq_false_iff_ne.2 (by omega)
    have e3 : ((x.toNat : Int) == 95) = false := beq_eq_false_iff_ne.2 (by omega)
    have e4 : ((x.toNat : Int) == 126) = false := beq_eq_false_iff_ne.2 (by omega)
    clear hu
    rcases hx2 with h | ⟨h, h'⟩ | ⟨h, h'⟩ | ⟨h, h'⟩ | ⟨h, h'⟩ | ⟨h, h'⟩ | h
    all_goals
      go_enter Try.func12, Try.ntmps12
      go_wp2
      go_ret
      exact ⟨rfl, rfl⟩
  · have hx2 : (97 ≤ (x.toNat : Int) ∧ (x.toNat : Int) ≤ 122) ∨ (65 ≤ (x.toNat : Int) ∧ (x.toNat : Int) ≤ 90) ∨ (48 ≤ (x.toNat : Int) ∧ (x.toNat : Int) ≤ 57) ∨ (45 ≤ (x.toNat : Int) ∧ (x.toNat : Int) ≤ 45) ∨ (46 ≤ (x.toNat : Int) ∧ (x.toNat : Int) ≤ 46) ∨ (95 ≤ (x.toNat : Int) ∧ (x.toNat : Int) ≤ 95) ∨ (126 ≤ (x.toNat : Int) ∧ (x.toNat : Int) ≤ 126) := by
      simp [Pl.unres] at hu; omega
    clear hu
    rcases hx2 with ⟨h, h'⟩ | ⟨h, h'⟩ | ⟨h, h'⟩ | ⟨h, h'⟩ | ⟨h, h'⟩ | ⟨h, h'⟩ | ⟨h, h'⟩
    · go_enter Try.func12, Try.ntmps12
      go_wp2
      go_ret
      exact ⟨rfl, rfl⟩
    · go_enter Try.func12, Try.ntmps12
      go_wp2
      go_ret
      exact ⟨rfl, rfl⟩
    · go_enter Try.func12, Try.ntmps12
      go_wp2
      go_ret
      exact ⟨rfl, rfl⟩
    · have e1 : ((x.toNat : Int) == 45) = true := beq_iff_eq.2 (by omega)
      go_enter Try.func12, Try.ntmps12
      go_wp2
      go_ret
      exact ⟨rfl, rfl⟩
    · have e1 : ((x.toNat : Int) == 45) = false := beq_eq_false_iff_ne.2 (by omega)
      have e2 : ((x.toNat : Int) == 46) = true := beq_iff_eq.2 (by omega)
      go_enter Try.func12, Try.ntmps12
      go_wp2
      go_ret
      exact ⟨rfl, rfl⟩
    · have e1 : ((x.toNat : Int) == 45) = false := beq_eq_false_iff_ne.2 (by omega)
      have e2 : ((x.toNat : Int) == 46) = false := beq_eq_false_iff_ne.2 (by omega)
      have e3 : ((x.toNat : Int) == 95) = true := beq_iff_eq.2 (by omega)
      go_enter Try.func12, Try.ntmps12
      go_wp2
      go_ret
      exact ⟨rfl, rfl⟩
    · have e1 : ((x.toNat : Int) == 45) = false := beq_eq_false_iff_ne.2 (by omega)
      have e2 : ((x.toNat : Int) == 46) = false := beq_eq_false_iff_ne.2 (by omega)
      have e3 : ((x.toNat : Int) == 95) = false := beq_eq_false_iff_ne.2 (by omega)
      have e4 : ((x.toNat : Int) == 126) = true := beq_iff_eq.2 (by omega)
      go_enter Try.func12, Try.ntmps12
      go_wp2
      go_ret
      exact ⟨rfl, rfl⟩
end Go.Proofs.Qxb6003563a
