/-
  DERIVED. THE WALKS of b1Untouched (13), ZZInteger (15), Finish (10), zzBytes (16) and FnIntegerThenFinish (5).
-/
import Derived.Test.Qxb6602638aUtil
namespace Go.Proofs.Qxb6602638a
open Go.RowKit

theorem below_drewN {B : Nat} {a w : World} (h : Below B a w) (q : Nat) : Below B a (w.drewN q) := ⟨h.os, h.tape, h.output, h.size, h.block⟩

set_option maxHeartbeats 2000000 in
theorem untouched_any (sb : Nat) (keep : Bool) (vo : Value) (one : Bool) (st : Int) (vp : Value) (key : Bool) (hex : Int) (rest : ByteArray) (z1 z2 : Bool) (v1 v2 : Value) (b1 b2 c1 c2 n1 n2 : Nat) (l1 l2 : List UInt8) (w : World)
    (hB : Box sb keep vo one st vp key hex rest w) (h1 : Row z1 b1 vo n1 l1 w) (h2 : Row z1 c1 v1 n1 l1 w) (h3 : Row z2 b2 vp n2 l2 w) (h4 : Row z2 c2 v2 n2 l2 w) (hn1 : n1 ≤ 1048576) (hn2 : n2 ≤ 1048576) :
    Calls Try.prog 13 #[.pointer (some ⟨sb, 0, none⟩), .bool keep, v1, .bool one, v2, .int .i64 hex, .string rest] w fun e w' => e = .returned (.bool true) ∧ ∃ q, w' = w.drewN q := by
  obtain ⟨d0, d1, d2, d3, d4, d5, d6, d7⟩ := hB.cells
  have k1 := same_any z1 b1 c1 n1 vo v1 l1 w h1 h2 hn1
  have k2 := fun q => same_any z2 b2 c2 n2 vp v2 l2 (w.drewN q) (h3.drew q) (h4.drew q) hn2
  have H2 := Lib.hid k2
  clear hB h1 h2 h3 h4 k2
  go_enter Try.func13, Try.ntmps13
  go_wp2_with (first | (go_at_call 19; refine k1.mono ?_; rintro e w1 ⟨rfl, q, rfl⟩; refine Hid.out ?_) | go_in)
  have k2 := H2.out q
  clear k1 H2
  refine Lib.hid ?_
  go_wp2_with (first | (go_at_call 19; refine k2.mono ?_; rintro e w1 ⟨rfl, q2, rfl⟩; refine Hid.out ?_) | go_in)
  clear k2
  refine Lib.hid ?_
  go_wp2_with go_in
  go_ret
  exact ⟨rfl, _, rfl⟩

/-- The state that a number's first digit c leads to. -/
def Begun (c t : Int) : Prop := (c = 48 ∧ t = 11) ∨ (¬ c = 48 ∧ t = 12)
theorem integer_run (sb : Nat) (keep : Bool) (vo : Value) (one : Bool) (st : Int) (vp : Value) (key : Bool) (hex : Int) (rest : ByteArray) (c t : Int) (ht : Begun c t) (w : World) (hB : Box sb keep vo one st vp key hex rest w) :
    Calls Try.prog 23 #[.pointer (some ⟨sb, 0, none⟩), .int .u8 c] w fun e w' => (∃ v, e = .returned v) ∧ Box sb keep vo one t vp key hex rest w' ∧ Below sb w w' := by
  obtain ⟨d0, d1, d2, d3, d4, d5, d6, d7⟩ := hB.cells
  have hfz := hB.frozen 3
  have HB := Lib.hid hB
  clear hB
  rcases ht with ⟨rfl, rfl⟩ | ⟨hc, rfl⟩
  · go_enter Try.func23, Try.ntmps23
    go_wp2
    (try simp only [Exit.inBlock, Exit.then])
    refine bodyPost_ret (results_none rfl _ _ _) rfl ?_
    exact ⟨⟨_, rfl⟩, HB.out.state 11, (Below.refl _ _).setCell (p := ⟨sb, 3, none⟩) (Nat.le_refl _) _⟩
  · go_enter Try.func23, Try.ntmps23
    go_wp2
    go_end0
    exact ⟨⟨_, rfl⟩, HB.out.state 12, (Below.refl _ _).setCell (p := ⟨sb, 3, none⟩) (Nat.le_refl _) _⟩
theorem integer_any (sb : Nat) (keep : Bool) (vo : Value) (one : Bool) (st : Int) (vp : Value) (key : Bool) (hex : Int) (rest : ByteArray) (c t : Int) (ht : Begun c t) (w : World) (hB : Box sb keep vo one st vp key hex rest w) :
    Calls Try.prog 15 #[.pointer (some ⟨sb, 0, none⟩), .int .u8 c] w fun e w' => (∃ v, e = .returned v) ∧ Box sb keep vo one t vp key hex rest w' ∧ Below sb w w' := by
  have k := integer_run sb keep vo one st vp key hex rest c t ht w hB
  clear hB
  go_enter Try.func15, Try.ntmps15
  go_wp2_with (go_at_call 23; refine k.mono ?_; rintro e w1 ⟨⟨v, rfl⟩, hB1, hb⟩)
  go_end0
  exact ⟨⟨_, rfl⟩, hB1, hb⟩

theorem finish_any (sb : Nat) (keep : Bool) (vo : Value) (one : Bool) (st : Int) (a : Option Addr) (n c : Nat) (key : Bool) (hex : Int) (rest : ByteArray) (w : World) (hB : Box sb keep vo one st (.slice a n c) key hex rest w) (hst : st = 11 ∨ st = 12) :
    Calls Try.prog 10 #[.pointer (some ⟨sb, 0, none⟩)] w fun e w' => e = .returned (.bool (decide (n = 0))) ∧ Box sb keep vo one (if n = 0 then 18 else st) (.slice a n c) key hex rest w' ∧ Below sb w w' := by
  obtain ⟨d0, d1, d2, d3, d4, d5, d6, d7⟩ := hB.cells
  have hfz := hB.frozen 3
  have HB := Lib.hid hB
  clear hB
  by_cases hn : n = 0
  · subst hn
    rcases hst with rfl | rfl
    · go_enter Try.func10, Try.ntmps10
      go_wp2_with go_in
      go_ret
      exact ⟨rfl, HB.out.state 18, (Below.refl _ _).setCell (p := ⟨sb, 3, none⟩) (Nat.le_refl _) _⟩
    · go_enter Try.func10, Try.ntmps10
      go_wp2_with go_in
      go_ret
      exact ⟨rfl, HB.out.state 18, (Below.refl _ _).setCell (p := ⟨sb, 3, none⟩) (Nat.le_refl _) _⟩
  · have hn' : ¬ ((n : Int) = 0) := by omega
    rcases hst with rfl | rfl
    · go_enter Try.func10, Try.ntmps10
      go_wp2_with go_in
      go_ret
      exact ⟨rfl, HB.out, Below.refl _ _⟩
    · go_enter Try.func10, Try.ntmps10
      go_wp2_with go_in
      go_ret
      exact ⟨rfl, HB.out, Below.refl _ _⟩

/-! ### The ways on which the law lets the input by -/
/-- It returns a bool. -/
def IsBool (e : Ending) : Prop := ∃ b, e = .returned (.bool b)
theorem zzBytes_any (a0 a2 a5 : Bool) (a3 a6 a8 : Int) (a1 a4 : Option Addr) (n1 c1 n4 c4 : Nat) (a7 : ByteArray) (w : World) (h1 : n1 ≤ maxLen) (h4 : n4 ≤ maxLen) (h7 : a7.size ≤ maxLen) :
    Calls Try.prog 16 #[.bool a0, .slice a1 n1 c1, .bool a2, .int .u8 a3, .slice a4 n4 c4, .bool a5, .int .i64 a6, .string a7, .int .u8 a8] w fun e w' => IsBool e ∧ w = w' := by
  unfold maxLen at h1 h4 h7
  by_cases g1 : 1048576 < n1
  · have g1' : (1048576 : Int) < (n1 : Int) := by omega
    go_enter Try.func16, Try.ntmps16
    go_wp2
    go_ret
    exact ⟨⟨_, rfl⟩, rfl⟩
  have g1' : ¬ (1048576 : Int) < (n1 : Int) := by omega
  by_cases g2 : 1048576 < n4
  · have g2' : (1048576 : Int) < (n4 : Int) := by omega
    go_enter Try.func16, Try.ntmps16
    go_wp2
    go_ret
    exact ⟨⟨_, rfl⟩, rfl⟩
  have g2' : ¬ (1048576 : Int) < (n4 : Int) := by omega
  by_cases g3 : 1048576 < n1 + n4
  · have g3' : (1048576 : Int) < (n1 : Int) + (n4 : Int) := by omega
    go_enter Try.func16, Try.ntmps16
    go_wp2
    go_ret
    exact ⟨⟨_, rfl⟩, rfl⟩
  have g3' : ¬ (1048576 : Int) < (n1 : Int) + (n4 : Int) := by omega
  by_cases g4 : 1048576 < a7.size
  · have g4' : (1048576 : Int) < (a7.size : Int) := by omega
    go_enter Try.func16, Try.ntmps16
    go_wp2
    go_ret
    exact ⟨⟨_, rfl⟩, rfl⟩
  have g4' : ¬ (1048576 : Int) < (a7.size : Int) := by omega
  by_cases g5 : 1048576 < n1 + n4 + a7.size
  · have g5' : (1048576 : Int) < (n1 : Int) + (n4 : Int) + (a7.size : Int) := by omega
    go_enter Try.func16, Try.ntmps16
    go_wp2
    go_ret
    exact ⟨⟨_, rfl⟩, rfl⟩
  have g5' : ¬ (1048576 : Int) < (n1 : Int) + (n4 : Int) + (a7.size : Int) := by omega
  go_enter Try.func16, Try.ntmps16
  go_wp2
  go_ret
  exact ⟨⟨_, rfl⟩, rfl⟩
end Go.Proofs.Qxb6602638a
