/-
  DERIVED. THE WALKS of (*Scanner).ended (25), quick (24), ZZQuick (18), zzBytes (17).
-/
import Derived.Test.Qxb6602638aIntTop
import Derived.Deep.Cut
namespace Go.Proofs.Qxb6602638a
open Go.RowKit

/-- The scanner's box with m+1 arrays and objects open, the innermost 'top'. -/
structure In (sb pb m : Nat) (top : Int) (keep : Bool) (vo : Value) (one : Bool) (st : Int) (key : Bool) (hex : Int) (rest : ByteArray) (w : World) : Prop where
  box : Box sb keep vo one st (.slice (some ⟨pb, 0, none⟩) (m + 1) (m + 1)) key hex rest w
  low : pb < sb
  small : m ≤ 1048576
  last : w.cell? ⟨pb, m, none⟩ = some (.int .u8 top)
theorem In.state {sb pb m : Nat} {top : Int} {keep : Bool} {vo : Value} {one : Bool} {st : Int} {key : Bool} {hex : Int} {rest : ByteArray} {w : World} (h : In sb pb m top keep vo one st key hex rest w) (t : Int) : In sb pb m top keep vo one t key hex rest (w.setCell ⟨sb, 3, none⟩ (.int .u8 t)) :=
  ⟨h.box.state t, h.low, h.small, by rw [((Below.refl sb w).setCell (p := ⟨sb, 3, none⟩) (Nat.le_refl _) _).cell h.low]; exact h.last⟩
theorem In.keyed {sb pb m : Nat} {top : Int} {keep : Bool} {vo : Value} {one : Bool} {st : Int} {key : Bool} {hex : Int} {rest : ByteArray} {w : World} (h : In sb pb m top keep vo one st key hex rest w) (t : Bool) : In sb pb m top keep vo one st t hex rest (w.setCell ⟨sb, 5, none⟩ (.bool t)) :=
  ⟨h.box.keyed t, h.low, h.small, by rw [((Below.refl sb w).setCell (p := ⟨sb, 5, none⟩) (Nat.le_refl _) _).cell h.low]; exact h.last⟩
theorem In.drew {sb pb m : Nat} {top : Int} {keep : Bool} {vo : Value} {one : Bool} {st : Int} {key : Bool} {hex : Int} {rest : ByteArray} {w : World} (h : In sb pb m top keep vo one st key hex rest w) (q : Nat) : In sb pb m top keep vo one st key hex rest (w.drewN q) := ⟨h.box, h.low, h.small, h.last⟩

/-- What the commonest bytes do. -/
def Trans (top st : Int) (key : Bool) (c t : Int) (k : Bool) : Prop :=
  (st = 2 ∧ key = false ∧ c = 34 ∧ t = 6 ∧ k = true) ∨
  (st = 6 ∧ key = true ∧ c = 34 ∧ t = 4 ∧ k = false) ∨
  (st = 4 ∧ key = false ∧ c = 58 ∧ t = 0 ∧ k = false) ∨
  (st = 0 ∧ key = false ∧ c = 34 ∧ t = 6 ∧ k = false) ∨
  (st = 1 ∧ key = false ∧ c = 34 ∧ t = 6 ∧ k = false) ∨
  (st = 6 ∧ key = false ∧ c = 34 ∧ t = 5 ∧ k = false) ∨
  (¬ top = 123 ∧ st = 5 ∧ key = false ∧ c = 44 ∧ t = 0 ∧ k = false) ∨
  (top = 123 ∧ st = 5 ∧ key = false ∧ c = 44 ∧ t = 3 ∧ k = false)

theorem ended_any (sb pb m : Nat) (top : Int) (keep : Bool) (vo : Value) (one : Bool) (st : Int) (key : Bool) (hex : Int) (rest : ByteArray) (w : World) (h : In sb pb m top keep vo one st key hex rest w) :
    Calls Try.prog 25 #[.pointer (some ⟨sb, 0, none⟩)] w fun e w' => (∃ v, e = .returned v) ∧ In sb pb m top keep vo one 5 key hex rest w' ∧ Below sb w w' := by
  obtain ⟨d0, d1, d2, d3, d4, d5, d6, d7⟩ := h.box.cells
  have hfz := h.box.frozen 3
  have HB := Lib.hid h
  have hm : ¬ ((m : Int) + 1 = 0) := by omega
  clear h
  go_enter Try.func25, Try.ntmps25
  go_wp2
  go_end0
  exact ⟨⟨_, rfl⟩, HB.out.state 5, (Below.refl _ _).setCell (p := ⟨sb, 3, none⟩) (Nat.le_refl _) _⟩

set_option maxHeartbeats 4000000 in
theorem quick_any (sb pb m : Nat) (top : Int) (keep : Bool) (vo : Value) (one : Bool) (st : Int) (key : Bool) (hex : Int) (rest : ByteArray) (c t : Int) (k : Bool) (ht : Trans top st key c t k) (w : World) (h : In sb pb m top keep vo one st key hex rest w) :
    Calls Try.prog 24 #[.pointer (some ⟨sb, 0, none⟩), .int .u8 c] w fun e w' => e = .returned (.bool true) ∧ In sb pb m top keep vo one t k hex rest w' ∧ Below sb w w' := by
  obtain ⟨d0, d1, d2, d3, d4, d5, d6, d7⟩ := h.box.cells
  have hf3 := h.box.frozen 3
  have hf5 := h.box.frozen 5
  have HB := Lib.hid h
  have k25 := ended_any sb pb m top keep vo one st key hex rest w h
  have hset : ∀ (v : Value) (j : Nat), Below sb w (w.setCell ⟨sb, j, none⟩ v) := fun v j => (Below.refl _ _).setCell (p := ⟨sb, j, none⟩) (Nat.le_refl _) v
  have Hset := Lib.hid hset
  clear h hset
  rcases ht with ⟨rfl, rfl, rfl, rfl, rfl⟩ | ⟨rfl, rfl, rfl, rfl, rfl⟩ | ⟨rfl, rfl, rfl, rfl, rfl⟩ | ⟨rfl, rfl, rfl, rfl, rfl⟩ | ⟨rfl, rfl, rfl, rfl, rfl⟩ | ⟨rfl, rfl, rfl, rfl, rfl⟩ | ⟨h123, rfl, rfl, rfl, rfl, rfl⟩ | ⟨h123, rfl, rfl, rfl, rfl, rfl⟩
  · clear k25
    go_enter Try.func24, Try.ntmps24
    go_wp2
    go_ret
    exact ⟨rfl, (HB.out.state 6).keyed true, (Hset.out _ 3).setCell (p := ⟨sb, 5, none⟩) (Nat.le_refl _) _⟩
  · clear k25
    go_enter Try.func24, Try.ntmps24
    go_wp2
    go_ret
    exact ⟨rfl, (HB.out.state 4).keyed false, (Hset.out _ 3).setCell (p := ⟨sb, 5, none⟩) (Nat.le_refl _) _⟩
  · clear k25
    go_enter Try.func24, Try.ntmps24
    go_wp2
    go_ret
    exact ⟨rfl, HB.out.state 0, Hset.out _ 3⟩
  · clear k25
    go_enter Try.func24, Try.ntmps24
    go_wp2
    go_ret
    exact ⟨rfl, HB.out.state 6, Hset.out _ 3⟩
  · clear k25
    go_enter Try.func24, Try.ntmps24
    go_wp2
    go_ret
    exact ⟨rfl, HB.out.state 6, Hset.out _ 3⟩
  · go_enter Try.func24, Try.ntmps24
    go_wp2_with (go_at_call 25; refine k25.mono ?_; rintro e w1 ⟨⟨v, rfl⟩, hB1, hb⟩; refine Hid.out ?_)
    have HB1 := Lib.hid hB1
    have Hb := Lib.hid hb
    clear k25 hB1 hb
    refine Lib.hid ?_
    go_wp2
    go_ret
    exact ⟨rfl, HB1.out, Hb.out⟩
  · clear k25
    have HB2 := Lib.hid (HB.out.state 0)
    go_enter Try.func24, Try.ntmps24
    go_upto_region 14 with fail
    have hb2 := Lib.hid (Hset.out (.int .u8 0) 3)
    obtain ⟨w2, hw2⟩ : ∃ w2, w.setCell ⟨sb, 3, none⟩ (.int .u8 0) = w2 := ⟨_, rfl⟩
    rw [hw2] at HB2 hb2 ⊢
    clear d0 d1 d2 d3 d4 d5 d6 d7 hf3 hf5 hw2
    obtain ⟨d0, d1, d2, d3, d4, d5, d6, d7⟩ := HB2.out.box.cells
    have hlast := HB2.out.last
    have hm : ((m : Int) + 1 - 1) = (m : Int) := by omega
    have hsm := HB2.out.small
    go_quiet (fail)
    go_wp2
    go_ret
    exact ⟨rfl, HB2.out.drew _, below_drewN hb2.out _⟩
  · clear k25
    subst h123
    have HB2 := Lib.hid (HB.out.state 0)
    go_enter Try.func24, Try.ntmps24
    go_upto_region 14 with fail
    have hb2 := Lib.hid (Hset.out (.int .u8 0) 3)
    obtain ⟨w2, hw2⟩ : ∃ w2, w.setCell ⟨sb, 3, none⟩ (.int .u8 0) = w2 := ⟨_, rfl⟩
    rw [hw2] at HB2 hb2 ⊢
    clear d0 d1 d2 d3 d4 d5 d6 d7 hf3 hf5 hw2
    obtain ⟨d0, d1, d2, d3, d4, d5, d6, d7⟩ := HB2.out.box.cells
    have hlast := HB2.out.last
    have hf3 := HB2.out.box.frozen 3
    have hm : ((m : Int) + 1 - 1) = (m : Int) := by omega
    have hsm := HB2.out.small
    go_quiet (fail)
    go_wp2
    go_ret
    exact ⟨rfl, (HB2.out.drew _).state 3, (below_drewN hb2.out _).setCell (p := ⟨sb, 3, none⟩) (Nat.le_refl _) _⟩

theorem zzQuick_any (sb pb m : Nat) (top : Int) (keep : Bool) (vo : Value) (one : Bool) (st : Int) (key : Bool) (hex : Int) (rest : ByteArray) (c t : Int) (k : Bool) (ht : Trans top st key c t k) (w : World) (h : In sb pb m top keep vo one st key hex rest w) :
    Calls Try.prog 18 #[.pointer (some ⟨sb, 0, none⟩), .int .u8 c] w fun e w' => e = .returned (.bool true) ∧ In sb pb m top keep vo one t k hex rest w' ∧ Below sb w w' := by
  have k24 := quick_any sb pb m top keep vo one st key hex rest c t k ht w h
  clear h ht
  go_enter Try.func18, Try.ntmps18
  go_wp2_with (go_at_call 24; refine k24.mono ?_; rintro e w1 ⟨rfl, hB1, hb⟩)
  go_ret
  exact ⟨rfl, hB1, hb⟩

/-- A second comma is refused. -/
theorem zzQuick_refuses (sb : Nat) (keep : Bool) (vo : Value) (one : Bool) (st : Int) (vp : Value) (key : Bool) (hex : Int) (rest : ByteArray) (hst : st = 0 ∨ st = 3) (w : World) (h : Box sb keep vo one st vp key hex rest w) :
    Calls Try.prog 18 #[.pointer (some ⟨sb, 0, none⟩), .int .u8 44] w fun e w' => e = .returned (.bool false) ∧ w = w' := by
  obtain ⟨d0, d1, d2, d3, d4, d5, d6, d7⟩ := h.cells
  clear h
  rcases hst with rfl | rfl
  · go_enter Try.func18, Try.ntmps18
    go_wp2_with go_in
    go_ret
    exact ⟨rfl, rfl⟩
  · go_enter Try.func18, Try.ntmps18
    go_wp2_with go_in
    go_ret
    exact ⟨rfl, rfl⟩

theorem zzBytes6_any (a0 a2 : Bool) (a4 : Int) (a1 a3 : Option Addr) (n1 c1 n4 c4 : Nat) (a7 : ByteArray) (w : World) (h1 : n1 ≤ maxLen) (h4 : n4 ≤ maxLen) (h7 : a7.size ≤ maxLen) :
    Calls Try.prog 17 #[.bool a0, .slice a1 n1 c1, .bool a2, .slice a3 n4 c4, .int .i64 a4, .string a7] w fun e w' => IsBool e ∧ w = w' := by
  unfold maxLen at h1 h4 h7
  by_cases g1 : 1048576 < n1
  · have g1' : (1048576 : Int) < (n1 : Int) := by omega
    go_enter Try.func17, Try.ntmps17
    go_wp2
    go_ret
    exact ⟨⟨_, rfl⟩, rfl⟩
  have g1' : ¬ (1048576 : Int) < (n1 : Int) := by omega
  by_cases g2 : 1048576 < n4
  · have g2' : (1048576 : Int) < (n4 : Int) := by omega
    go_enter Try.func17, Try.ntmps17
    go_wp2
    go_ret
    exact ⟨⟨_, rfl⟩, rfl⟩
  have g2' : ¬ (1048576 : Int) < (n4 : Int) := by omega
  by_cases g3 : 1048576 < n1 + n4
  · have g3' : (1048576 : Int) < (n1 : Int) + (n4 : Int) := by omega
    go_enter Try.func17, Try.ntmps17
    go_wp2
    go_ret
    exact ⟨⟨_, rfl⟩, rfl⟩
  have g3' : ¬ (1048576 : Int) < (n1 : Int) + (n4 : Int) := by omega
  by_cases g4 : 1048576 < a7.size
  · have g4' : (1048576 : Int) < (a7.size : Int) := by omega
    go_enter Try.func17, Try.ntmps17
    go_wp2
    go_ret
    exact ⟨⟨_, rfl⟩, rfl⟩
  have g4' : ¬ (1048576 : Int) < (a7.size : Int) := by omega
  by_cases g5 : 1048576 < n1 + n4 + a7.size
  · have g5' : (1048576 : Int) < (n1 : Int) + (n4 : Int) + (a7.size : Int) := by omega
    go_enter Try.func17, Try.ntmps17
    go_wp2
    go_ret
    exact ⟨⟨_, rfl⟩, rfl⟩
  have g5' : ¬ (1048576 : Int) < (n1 : Int) + (n4 : Int) + (a7.size : Int) := by omega
  go_enter Try.func17, Try.ntmps17
  go_wp2
  go_ret
  exact ⟨⟨_, rfl⟩, rfl⟩
end Go.Proofs.Qxb6602638a
