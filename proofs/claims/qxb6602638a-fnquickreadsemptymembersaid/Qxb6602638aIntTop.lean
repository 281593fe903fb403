/-
  DERIVED. THE WALK of FnIntegerThenFinish (function 5).
-/
import Derived.Test.Qxb6602638aInt
namespace Go.Proofs.Qxb6602638a
open Go.RowKit

theorem lt_of_cell {w : World} {p : Addr} {v : Value} (h : w.cell? p = some v) : p.block < w.heap.size := by
  by_cases hlt : p.block < w.heap.size
  · exact hlt
  · have : w.heap[p.block]? = none := Array.getElem?_eq_none (by omega)
    simp [World.cell?, this] at h
theorem Reads.old {z : Bool} {v : Value} {n : Nat} {l : List UInt8} {w w' : World} (h : Reads z v n l w) (hb : Below w.heap.size w w') : Reads z v n l w' := by
  obtain ⟨hl, h | ⟨hz, a, c, hv, h1, h2⟩⟩ := h
  · exact ⟨hl, .inl h⟩
  · exact ⟨hl, .inr ⟨hz, a, c, hv, fun h0 => Nat.lt_of_lt_of_le (h1 h0) hb.size, fun j hj => by rw [hb.cell (by rw [add_block]; exact h1 (by omega))]; exact h2 j hj⟩⟩

set_option maxHeartbeats 8000000 in
theorem intFinish_any (a0 a2 a5 : Bool) (a3 a6 a8 : Int) (a1 a4 : Option Addr) (n1 c1 n4 c4 : Nat) (z1 z4 : Bool) (l1 l4 : List UInt8) (a7 : ByteArray) (w : World) (hr1 : Reads z1 (.slice a1 n1 c1) n1 l1 w) (hr4 : Reads z4 (.slice a4 n4 c4) n4 l4 w) (h1 : n1 ≤ maxLen) (h4 : n4 ≤ maxLen) (h7 : a7.size ≤ maxLen) :
    Calls Try.prog 5 #[.bool a0, .slice a1 n1 c1, .bool a2, .int .u8 a3, .slice a4 n4 c4, .bool a5, .int .i64 a6, .string a7, .int .u8 a8] w fun e w' => e = .returned (.bool true) ∧ Below w.heap.size w w' := by
  have k16 := zzBytes_any a0 a2 a5 a3 a6 a8 a1 a4 n1 c1 n4 c4 a7 w h1 h4 h7
  have Hr1 := Lib.hid hr1
  have Hr4 := Lib.hid hr4
  clear hr1 hr4
  unfold maxLen at h1 h4 h7
  go_enter Try.func5, Try.ntmps5
  go_wp2_with (go_at_call 16; refine k16.mono ?_; rintro e w1 ⟨⟨b, rfl⟩, rfl⟩; refine Hid.out ?_)
  clear k16
  cases b with
  | false =>
    refine Lib.hid ?_
    go_wp2
    go_ret
    exact ⟨rfl, Below.refl _ _⟩
  | true =>
    by_cases g1 : 1048576 < n1
    · have g1' : (1048576 : Int) < (n1 : Int) := by omega
      refine Lib.hid ?_
      go_wp2
      go_ret
      exact ⟨rfl, Below.refl _ _⟩
    have g1' : ¬ (1048576 : Int) < (n1 : Int) := by omega
    by_cases g2 : 1048576 < n4
    · have g2' : (1048576 : Int) < (n4 : Int) := by omega
      refine Lib.hid ?_
      go_wp2
      go_ret
      exact ⟨rfl, Below.refl _ _⟩
    have g2' : ¬ (1048576 : Int) < (n4 : Int) := by omega
    by_cases g4 : 1048576 < a7.size
    · have g4' : (1048576 : Int) < (a7.size : Int) := by omega
      refine Lib.hid ?_
      go_wp2
      go_ret
      exact ⟨rfl, Below.refl _ _⟩
    have g4' : ¬ (1048576 : Int) < (a7.size : Int) := by omega
    by_cases g5 : 1048576 < n1 + n4 + a7.size
    · have g5' : (1048576 : Int) < (n1 : Int) + (n4 : Int) + (a7.size : Int) := by omega
      refine Lib.hid ?_
      go_wp2
      go_ret
      exact ⟨rfl, Below.refl _ _⟩
    have g5' : ¬ (1048576 : Int) < (n1 : Int) + (n4 : Int) + (a7.size : Int) := by omega
    by_cases g6 : a8 < 48
    · refine Lib.hid ?_
      go_wp2
      go_ret
      exact ⟨rfl, Below.refl _ _⟩
    by_cases g7 : 57 < a8
    · refine Lib.hid ?_
      go_wp2
      go_ret
      exact ⟨rfl, Below.refl _ _⟩
    have k8 := clone_any z1 _ n1 l1 w Hr1.out (by omega)
    refine Lib.hid ?_
    go_wp2_with (first | (go_at_call 8; refine k8.mono ?_; rintro e wA ⟨v1, rfl, hRA, hbA⟩; refine Hid.out ?_) | go_in)
    clear k8 Hr1
    have k8 := clone_any z4 _ n4 l4 wA (Hr4.out.old hbA) (by omega)
    refine Lib.hid ?_
    go_wp2_with (first | (go_at_call 8; refine k8.mono ?_; rintro e wB ⟨v2, rfl, hRB, hbB⟩; refine Hid.out ?_) | go_in)
    clear k8 Hr4
    have hR1B := hRA.old hbB
    have hB1 : Below w.heap.size w wB := hbA.trans (hbB.mono hbA.size)
    have k8 := clone_any z1 _ n1 l1 wB hR1B.reads (by omega)
    refine Lib.hid ?_
    go_wp2_with (first | (go_at_call 8; refine k8.mono ?_; rintro e wC ⟨v3, rfl, hRC, hbC⟩; refine Hid.out ?_) | go_in)
    have hR1C := hR1B.old hbC
    have hR2C := hRB.old hbC
    have hB2 : Below w.heap.size w wC := hB1.trans (hbC.mono hB1.size)
    clear k8 hRA hR1B hRB
    have k8 := clone_any z4 _ n4 l4 wC hR2C.reads (by omega)
    refine Lib.hid ?_
    go_wp2_with (first | (go_at_call 8; refine k8.mono ?_; rintro e wD ⟨v4, rfl, hRD, hbD⟩; refine Hid.out ?_) | go_in)
    have hR1D := hR1C.old hbD
    have hR2D := hR2C.old hbD
    have hR3D := hRC.old hbD
    have hB3 : Below w.heap.size w wD := hB2.trans (hbD.mono hB2.size)
    clear k8 hR1C hR2C hRC
    obtain ⟨ao, co, eo⟩ := hR3D.slice
    obtain ⟨ap, cp, ep⟩ := hRD.slice
    obtain ⟨aq, cq, eq⟩ := hR2D.slice
    subst eq eo ep
    have k9 := make_any a0 _ a2 a3 _ a5 a6 a7 ao ap n1 co n4 cp rfl rfl wD
    refine Lib.hid ?_
    go_wp2_with (first | (go_at_call 9; refine k9.mono ?_; rintro e wE ⟨rfl, hBx, hbE⟩; refine Hid.out ?_) | go_in)
    have hl3 : w.heap.size ≤ wD.heap.size := hB3.size
    have H1 := Lib.hid hR1D
    have H2 := Lib.hid hR2D
    have H3 := Lib.hid hR3D
    have H4 := Lib.hid hRD
    clear k9 hR1D hR2D hR3D hRD hbA hbB hbC hbD hB1 hB2
    obtain ⟨t, ht⟩ : ∃ t, Begun a8 t := by
      by_cases e : a8 = 48
      · exact ⟨11, .inl ⟨e, rfl⟩⟩
      · exact ⟨12, .inr ⟨e, rfl⟩⟩
    have k15 := integer_any wD.heap.size a0 _ a2 a3 _ a5 a6 a7 a8 t ht wE hBx
    clear hBx
    refine Lib.hid ?_
    go_wp2_with (first | (go_at_call 15; refine k15.mono ?_; rintro e wF ⟨⟨vx, rfl⟩, hBx, hbF⟩; refine Hid.out ?_) | go_in)
    clear k15
    have k10 := finish_any wD.heap.size a0 _ a2 t ap n4 cp a5 a6 a7 wF hBx (ht.elim (fun h => .inl h.2) (fun h => .inr h.2))
    clear hBx
    by_cases hn4 : n4 = 0
    · rw [if_pos hn4, decide_eq_true hn4] at k10
      subst hn4
      refine Lib.hid ?_
      go_wp2_with (first | (go_at_call 10; refine k10.mono ?_; rintro e wG ⟨rfl, hBx, hbG⟩; refine Hid.out ?_) | go_in)
      clear k10
      have hAll : Below wD.heap.size wD wG := (hbE.trans hbF).trans hbG
      have k13 := untouched_any wD.heap.size a0 _ a2 _ _ a5 a6 a7 z1 z4 v1 _ _ _ _ _ n1 0 l1 l4 wG hBx (H3.out.old hAll) (H1.out.old hAll) (H4.out.old hAll) (H2.out.old hAll) (by omega) (by omega)
      have hfin : Below w.heap.size w wG := hB3.trans (hAll.mono hl3)
      obtain ⟨d0, d1, d2, d3, d4, d5, d6, d7⟩ := hBx.cells
      clear hBx d0 d1 d2 d4 d6 d7 hbE hbF hbG hAll H1 H2 H3 H4
      refine Lib.hid ?_
      go_wp2_with (first | (go_at_call 13; refine k13.mono ?_; rintro e wH ⟨rfl, q, rfl⟩; refine Hid.out ?_) | go_in)
      clear k13
      refine Lib.hid ?_
      go_wp2
      go_ret
      exact ⟨rfl, below_drewN hfin _⟩
    · rw [if_neg hn4, decide_eq_false hn4] at k10
      have hn4' : ((n4 : Int) == 0) = false := by simp; omega
      rcases ht with ⟨rfl, rfl⟩ | ⟨hc, rfl⟩
      · refine Lib.hid ?_
        go_wp2_with (first | (go_at_call 10; refine k10.mono ?_; rintro e wG ⟨rfl, hBx, hbG⟩; refine Hid.out ?_) | go_in)
        clear k10
        have hAll : Below wD.heap.size wD wG := (hbE.trans hbF).trans hbG
        have k13 := untouched_any wD.heap.size a0 _ a2 _ _ a5 a6 a7 z1 z4 v1 _ _ _ _ _ n1 n4 l1 l4 wG hBx (H3.out.old hAll) (H1.out.old hAll) (H4.out.old hAll) (H2.out.old hAll) (by omega) (by omega)
        have hfin : Below w.heap.size w wG := hB3.trans (hAll.mono hl3)
        obtain ⟨d0, d1, d2, d3, d4, d5, d6, d7⟩ := hBx.cells
        clear hBx d0 d1 d2 d4 d6 d7 hbE hbF hbG hAll H1 H2 H3 H4
        refine Lib.hid ?_
        go_wp2_with (first | (go_at_call 13; refine k13.mono ?_; rintro e wH ⟨rfl, q, rfl⟩; refine Hid.out ?_) | go_in)
        clear k13
        refine Lib.hid ?_
        go_wp2
        go_ret
        exact ⟨rfl, below_drewN hfin _⟩
      · have hc' : (a8 == 48) = false := by simpa using hc
        refine Lib.hid ?_
        go_wp2_with (first | (go_at_call 10; refine k10.mono ?_; rintro e wG ⟨rfl, hBx, hbG⟩; refine Hid.out ?_) | go_in)
        clear k10
        have hAll : Below wD.heap.size wD wG := (hbE.trans hbF).trans hbG
        have k13 := untouched_any wD.heap.size a0 _ a2 _ _ a5 a6 a7 z1 z4 v1 _ _ _ _ _ n1 n4 l1 l4 wG hBx (H3.out.old hAll) (H1.out.old hAll) (H4.out.old hAll) (H2.out.old hAll) (by omega) (by omega)
        have hfin : Below w.heap.size w wG := hB3.trans (hAll.mono hl3)
        obtain ⟨d0, d1, d2, d3, d4, d5, d6, d7⟩ := hBx.cells
        clear hBx d0 d1 d2 d4 d6 d7 hbE hbF hbG hAll H1 H2 H3 H4
        refine Lib.hid ?_
        go_wp2_with (first | (go_at_call 13; refine k13.mono ?_; rintro e wH ⟨rfl, q, rfl⟩; refine Hid.out ?_) | go_in)
        clear k13
        refine Lib.hid ?_
        go_wp2
        go_ret
        exact ⟨rfl, below_drewN hfin _⟩
end Go.Proofs.Qxb6602638a
