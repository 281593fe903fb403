/-
  DERIVED. THE WALK of FnQuickReadsEmptyMember (function 6).
-/
import Derived.Test.Qxb6602638aQuick
namespace Go.Proofs.Qxb6602638a
open Go.RowKit

/-! ### The two scripts, and the states on their ways -/
def scA (k : Nat) : Int := match k with | 0 => 34 | 1 => 34 | _ => 44
def stA (k : Nat) : Int := match k with | 0 => 1 | 1 => 6 | 2 => 5 | _ => 0
def scO (k : Nat) : Int := match k with | 0 => 34 | 1 => 34 | 2 => 58 | 3 => 34 | 4 => 34 | _ => 44
def stO (k : Nat) : Int := match k with | 0 => 2 | 1 => 6 | 2 => 4 | 3 => 0 | 4 => 6 | 5 => 5 | _ => 3
def kyO (k : Nat) : Bool := match k with | 1 => true | _ => false
theorem stepA (k : Nat) (h : k < 3) : Trans 91 (stA k) false (scA k) (stA (k + 1)) false := by
  match k, h with
  | 0, _ => exact (.inr (.inr (.inr (.inr (.inl ⟨rfl, rfl, rfl, rfl, rfl⟩)))))
  | 1, _ => exact (.inr (.inr (.inr (.inr (.inr (.inl ⟨rfl, rfl, rfl, rfl, rfl⟩))))))
  | 2, _ => exact (.inr (.inr (.inr (.inr (.inr (.inr (.inl ⟨by decide, rfl, rfl, rfl, rfl, rfl⟩)))))))
theorem stepO (k : Nat) (h : k < 6) : Trans 123 (stO k) (kyO k) (scO k) (stO (k + 1)) (kyO (k + 1)) := by
  match k, h with
  | 0, _ => exact (.inl ⟨rfl, rfl, rfl, rfl, rfl⟩)
  | 1, _ => exact (.inr (.inl ⟨rfl, rfl, rfl, rfl, rfl⟩))
  | 2, _ => exact (.inr (.inr (.inl ⟨rfl, rfl, rfl, rfl, rfl⟩)))
  | 3, _ => exact (.inr (.inr (.inr (.inl ⟨rfl, rfl, rfl, rfl, rfl⟩))))
  | 4, _ => exact (.inr (.inr (.inr (.inr (.inr (.inl ⟨rfl, rfl, rfl, rfl, rfl⟩))))))
  | 5, _ => exact (.inr (.inr (.inr (.inr (.inr (.inr (.inr ⟨rfl, rfl, rfl, rfl, rfl, rfl⟩)))))))

/-- The script that lies at block b. -/
def Script (b n : Nat) (sc : Nat → Int) (w : World) : Prop := b < w.heap.size ∧ ∀ k, k < n → w.cell? ⟨b, k, none⟩ = some (.int .u8 (sc k))
theorem Script.old {b n : Nat} {sc : Nat → Int} {w w' : World} (h : Script b n sc w) (hb : Below w.heap.size w w') : Script b n sc w' :=
  ⟨Nat.lt_of_lt_of_le h.1 hb.size, fun k hk => by rw [hb.cell h.1]; exact h.2 k hk⟩
theorem script_new (w : World) (n : Nat) (sc : Nat → Int) (arr : Array Value) (h : ∀ k, k < n → arr[k]? = some (.int .u8 (sc k))) : Script w.heap.size n sc (w.alloc (.cells arr 5)) :=
  ⟨by simp, fun k hk => by simp [go_sem]; exact h k hk⟩

theorem script_new1 (w : World) (o : Obj) (n : Nat) (sc : Nat → Int) (arr : Array Value) (h : ∀ k, k < n → arr[k]? = some (.int .u8 (sc k))) : Script (w.heap.size + 1) n sc ((w.alloc o).alloc (.cells arr 5)) := by
  have := script_new (w.alloc o) n sc arr h
  simpa using this

set_option maxHeartbeats 8000000 in
theorem quickReads_any (a0 a2 : Bool) (a4 : Int) (a1 a3 : Option Addr) (n1 c1 n4 c4 : Nat) (z1 z4 : Bool) (l1 l4 : List UInt8) (a7 : ByteArray) (w : World) (hr1 : Reads z1 (.slice a1 n1 c1) n1 l1 w) (hr4 : Reads z4 (.slice a3 n4 c4) n4 l4 w) (h1 : n1 ≤ maxLen) (h4 : n4 ≤ maxLen) (h7 : a7.size ≤ maxLen) :
    Calls Try.prog 6 #[.bool a0, .slice a1 n1 c1, .bool a2, .slice a3 n4 c4, .int .i64 a4, .string a7] w fun e w' => e = .returned (.bool true) ∧ Below w.heap.size w w' := by
  have k17 := zzBytes6_any a0 a2 a4 a1 a3 n1 c1 n4 c4 a7 w h1 h4 h7
  have Hr1 := Lib.hid hr1
  have Hr4 := Lib.hid hr4
  clear hr1 hr4
  unfold maxLen at h1 h4 h7
  go_enter Try.func6, Try.ntmps6
  go_wp2_with (go_at_call 17; refine k17.mono ?_; rintro e w1 ⟨⟨b, rfl⟩, rfl⟩; refine Hid.out ?_)
  clear k17
  cases b with
  | false =>
    refine Lib.hid ?_
    go_wp2
    go_ret
    exact ⟨rfl, Below.refl _ _⟩
  | true =>
    by_cases g1 : 1048576 < n1
    · have g1' : (1048576 : Int) < (n1 : Int) := by omega
      refine Lib.hid ?_
      go_wp2
      go_ret
      exact ⟨rfl, Below.refl _ _⟩
    have g1' : ¬ (1048576 : Int) < (n1 : Int) := by omega
    by_cases g2 : 1048576 < n4
    · have g2' : (1048576 : Int) < (n4 : Int) := by omega
      refine Lib.hid ?_
      go_wp2
      go_ret
      exact ⟨rfl, Below.refl _ _⟩
    have g2' : ¬ (1048576 : Int) < (n4 : Int) := by omega
    by_cases g4 : 1048576 < a7.size
    · have g4' : (1048576 : Int) < (a7.size : Int) := by omega
      refine Lib.hid ?_
      go_wp2
      go_ret
      exact ⟨rfl, Below.refl _ _⟩
    have g4' : ¬ (1048576 : Int) < (a7.size : Int) := by omega
    by_cases g5 : 1048576 < n1 + n4 + a7.size
    · have g5' : (1048576 : Int) < (n1 : Int) + (n4 : Int) + (a7.size : Int) := by omega
      refine Lib.hid ?_
      go_wp2
      go_ret
      exact ⟨rfl, Below.refl _ _⟩
    have g5' : ¬ (1048576 : Int) < (n1 : Int) + (n4 : Int) + (a7.size : Int) := by omega
    by_cases g6 : n4 = 0
    · subst g6
      refine Lib.hid ?_
      go_wp2
      go_ret
      exact ⟨rfl, Below.refl _ _⟩
    have g6' : ¬ ((n4 : Int) = 0) := by omega
    refine Lib.hid ?_
    go_upto_region 7 with fail
    obtain ⟨m, rfl⟩ : ∃ m, n4 = m + 1 := ⟨n4 - 1, by omega⟩
    have hm9 : m ≤ 1048575 := by omega
    have hn9 : n1 ≤ 1048576 := by omega
    clear g1 g2 g4 g5 g1' g2' g4' g5' g6 g6' h1 h4 h7
    obtain ⟨x, rfl, rfl, hx, hcell⟩ : ∃ x, a3 = some x ∧ z4 = false ∧ (x.block < w.heap.size) ∧ ∀ j, j < m + 1 → w.cell? (x.add j) = some (.int .u8 ((l4.getD j 0).toNat : Int)) := by
      obtain ⟨-, ⟨-, -, e⟩ | ⟨hz, a, c, e, hb, hc⟩⟩ := Hr4.out
      · omega
      · injection e with e1 _ _
        exact ⟨a, e1, hz, hb (by omega), hc⟩
    have hlast := hcell m (by omega)
    obtain ⟨top, htop⟩ : ∃ top : Nat, (l4.getD m 0).toNat = top := ⟨_, rfl⟩
    rw [htop] at hlast
    have Htop := Lib.hid htop
    clear hcell htop
    have hm0 : ¬ ((m : Int) + 1 = 0) := by omega
    by_cases t1 : top = 123
    · subst t1
      have Htop' : Hid ((l4.getD m 0).toNat = 123) := Htop
      clear Htop
      have k8 := clone_any z1 _ n1 l1 w Hr1.out (by omega)
      go_wp2_with (first | (go_at_call 8; refine k8.mono ?_; rintro e wA ⟨v1, rfl, hRA, hbA⟩; refine Hid.out ?_) | go_in)
      clear k8 Hr1 hlast
      have k8 := clone_any false _ (m + 1) l4 wA (Hr4.out.old hbA) (by omega)
      refine Lib.hid ?_
      go_wp2_with (first | (go_at_call 8; refine k8.mono ?_; rintro e wB ⟨v2, rfl, hRB, hbB⟩; refine Hid.out ?_) | go_in)
      clear k8 Hr4
      have hR1B := hRA.old hbB
      have hB1 : Below w.heap.size w wB := hbA.trans (hbB.mono hbA.size)
      have hbX : ∀ o, Below wB.heap.size wB (wB.alloc o) := fun o => (Below.refl _ _).alloc (Nat.le_refl _) o
      have hbXX : ∀ o o', Below wB.heap.size wB ((wB.alloc o).alloc o') := fun o o' => (hbX o).alloc (by simp) o'
      have k8 := fun w' (h : Below wB.heap.size wB w') => clone_any z1 v1 n1 l1 w' (hR1B.old h).reads (by omega)
      clear hRA
      refine Lib.hid ?_
      go_wp2_with (first | (go_at_call 8; refine (k8 _ (hbXX _ _)).mono ?_; rintro e wC ⟨v3, rfl, hRC, hbC⟩; refine Hid.out ?_) | go_in)
      have hsc := (script_new1 wB _ 6 scO _ (fun k hk => by match k, hk with | 0, _ => rfl | 1, _ => rfl | 2, _ => rfl | 3, _ => rfl | 4, _ => rfl | 5, _ => rfl)).old hbC
      have hbBC : Below wB.heap.size wB wC := (hbXX _ _).trans (hbC.mono (hbXX _ _).size)
      have hR1C := hR1B.old hbBC
      have hR2C := hRB.old hbBC
      have hB2 : Below w.heap.size w wC := hB1.trans (hbBC.mono hB1.size)
      clear k8 hbX hbXX hR1B hRB hbC hbBC hB1
      have k8 := clone_any false _ (m + 1) l4 wC hR2C.reads (by omega)
      refine Lib.hid ?_
      go_wp2_with (first | (go_at_call 8; refine k8.mono ?_; rintro e wD ⟨v4, rfl, hRD, hbD⟩; refine Hid.out ?_) | go_in)
      have hR1D := hR1C.old hbD
      have hR2D := hR2C.old hbD
      have hR3D := hRC.old hbD
      have hscD := hsc.old hbD
      have hB3 : Below w.heap.size w wD := hB2.trans (hbD.mono hB2.size)
      clear k8 hR1C hR2C hRC hsc hB2 hbD
      obtain ⟨ao, co, eo⟩ := hR3D.slice
      subst eo
      obtain ⟨ep, hpl, hpc⟩ : v4 = .slice (some ⟨wC.heap.size, 0, none⟩) (m + 1) (m + 1) ∧ wC.heap.size < wD.heap.size ∧ wD.cell? ⟨wC.heap.size, m, none⟩ = some (.int .u8 123) := by
        obtain ⟨-, ⟨e, -⟩ | ⟨-, e, hlt, hc⟩⟩ := hRD
        · cases e
        · exact ⟨e, hlt, by have := hc m (by omega); rw [Htop'.out] at this; exact this⟩
      subst ep
      have k9 := make_any a0 _ a2 2 _ false a4 a7 ao (some ⟨wC.heap.size, 0, none⟩) n1 co (m + 1) (m + 1) rfl rfl wD
      refine Lib.hid ?_
      go_wp2_with (first | (go_at_call 9; refine k9.mono ?_; rintro e wE ⟨rfl, hBx, hbE⟩; refine Hid.out ?_) | go_in)
      have hIn : In wD.heap.size wC.heap.size m 123 a0 (.slice ao n1 co) a2 2 false a4 a7 wE := ⟨hBx, hpl, by omega, by rw [hbE.cell hpl]; exact hpc⟩
      have hl3 : w.heap.size ≤ wD.heap.size := hB3.size
      have H1 := Lib.hid hR1D
      have H2 := Lib.hid hR2D
      have H3 := Lib.hid hR3D
      have H4 := Lib.hid hRD
      have HSc := Lib.hid hscD
      have HbE := Lib.hid hbE
      have HIn := Lib.hid hIn
      clear k9 hR1D hR2D hR3D hRD hscD hBx hbE hIn hpc hpl
      refine Lib.hid ?_
      go_wp2
      go_loopw [18] (fun i wr => ∃ k : Nat, k ≤ 6 ∧ i = .int .i64 k ∧ In wD.heap.size wC.heap.size m 123 a0 (.slice ao n1 co) a2 (stO k) (kyO k) a4 a7 wr ∧ Below wD.heap.size wE wr) (fun i _ => 6 - (intOf i).toNat)
      case atStart => exact ⟨0, Nat.zero_le _, rfl, HIn.out, Below.refl _ _⟩
      case round =>
        obtain ⟨k, hk, rfl, hI, hb⟩ := hrel
        have Hb := Lib.hid hb
        have hAll : Below wD.heap.size wD wr := HbE.out.trans hb
        by_cases hlt : k < 6
        · have hlt' : (k : Int) < 6 := by omega
          have hd := (HSc.out.old hAll).2 k hlt
          have k18 := zzQuick_any wD.heap.size wC.heap.size m 123 a0 (.slice ao n1 co) a2 (stO k) (kyO k) a4 a7 (scO k) (stO (k + 1)) (kyO (k + 1)) (stepO k hlt) wr hI
          obtain ⟨y, hy⟩ : ∃ y, scO k = y := ⟨_, rfl⟩
          rw [hy] at hd k18
          clear hy hI hb hAll
          go_wp2_with (first | (go_at_call 18; refine k18.mono ?_; rintro e wF ⟨rfl, hI2, hb2⟩; refine Hid.out ?_) | go_in)
          have HI2 := Lib.hid hI2
          have Hb2 := Lib.hid hb2
          clear k18 hI2 hb2
          refine Lib.hid ?_
          go_wp2
          go_roundw
          case rel => exact ⟨k + 1, by omega, by go_num, HI2.out, Hb.out.trans Hb2.out⟩
          case measure => simp [intOf]; omega
        · obtain rfl : k = 6 := by omega
          have hI3 : In wD.heap.size wC.heap.size m 123 a0 (.slice ao n1 co) a2 3 false a4 a7 wr := hI
          have k18 := zzQuick_refuses wD.heap.size a0 _ a2 3 _ false a4 a7 (by decide) wr hI3.box
          have k13 := untouched_any wD.heap.size a0 _ a2 _ _ false a4 a7 z1 false v1 v2 _ _ _ _ n1 (m + 1) l1 l4 wr hI3.box (H3.out.old hAll) (H1.out.old hAll) (H4.out.old hAll) (H2.out.old hAll) (by omega) (by omega)
          have hfin : Below w.heap.size w wr := hB3.trans (hAll.mono hl3)
          obtain ⟨d0, d1, d2, d3, d4, d5, d6, d7⟩ := hI3.box.cells
          clear hI hI3 hb hAll d0 d1 d2 d4 d6 d7 H1 H2 H3 H4 HSc HbE HIn hB3
          go_wp2_with (first | (go_at_call 18; refine k18.mono ?_; rintro e wF ⟨rfl, rfl⟩; refine Hid.out ?_) | go_in)
          clear k18
          refine Lib.hid ?_
          go_wp2_with (first | (go_at_call 13; refine k13.mono ?_; rintro e wH ⟨rfl, q, rfl⟩; refine Hid.out ?_) | go_in)
          clear k13
          refine Lib.hid ?_
          go_wp2
          go_ret
          exact ⟨rfl, below_drewN hfin _⟩
    by_cases t2 : top = 91
    · subst t2
      have Htop' : Hid ((l4.getD m 0).toNat = 91) := Htop
      clear Htop
      have k8 := clone_any z1 _ n1 l1 w Hr1.out (by omega)
      go_wp2_with (first | (go_at_call 8; refine k8.mono ?_; rintro e wA ⟨v1, rfl, hRA, hbA⟩; refine Hid.out ?_) | go_in)
      clear k8 Hr1 hlast
      have k8 := clone_any false _ (m + 1) l4 wA (Hr4.out.old hbA) (by omega)
      refine Lib.hid ?_
      go_wp2_with (first | (go_at_call 8; refine k8.mono ?_; rintro e wB ⟨v2, rfl, hRB, hbB⟩; refine Hid.out ?_) | go_in)
      clear k8 Hr4
      have hR1B := hRA.old hbB
      have hB1 : Below w.heap.size w wB := hbA.trans (hbB.mono hbA.size)
      have hbX : ∀ o, Below wB.heap.size wB (wB.alloc o) := fun o => (Below.refl _ _).alloc (Nat.le_refl _) o
      have hbXX : ∀ o o', Below wB.heap.size wB ((wB.alloc o).alloc o') := fun o o' => (hbX o).alloc (by simp) o'
      have k8 := fun w' (h : Below wB.heap.size wB w') => clone_any z1 v1 n1 l1 w' (hR1B.old h).reads (by omega)
      clear hRA
      refine Lib.hid ?_
      go_wp2_with (first | (go_at_call 8; refine (k8 _ (hbX _)).mono ?_; rintro e wC ⟨v3, rfl, hRC, hbC⟩; refine Hid.out ?_) | go_in)
      have hsc := (script_new wB 3 scA _ (fun k hk => by match k, hk with | 0, _ => rfl | 1, _ => rfl | 2, _ => rfl)).old hbC
      have hbBC : Below wB.heap.size wB wC := (hbX _).trans (hbC.mono (hbX _).size)
      have hR1C := hR1B.old hbBC
      have hR2C := hRB.old hbBC
      have hB2 : Below w.heap.size w wC := hB1.trans (hbBC.mono hB1.size)
      clear k8 hbX hbXX hR1B hRB hbC hbBC hB1
      have k8 := clone_any false _ (m + 1) l4 wC hR2C.reads (by omega)
      refine Lib.hid ?_
      go_wp2_with (first | (go_at_call 8; refine k8.mono ?_; rintro e wD ⟨v4, rfl, hRD, hbD⟩; refine Hid.out ?_) | go_in)
      have hR1D := hR1C.old hbD
      have hR2D := hR2C.old hbD
      have hR3D := hRC.old hbD
      have hscD := hsc.old hbD
      have hB3 : Below w.heap.size w wD := hB2.trans (hbD.mono hB2.size)
      clear k8 hR1C hR2C hRC hsc hB2 hbD
      obtain ⟨ao, co, eo⟩ := hR3D.slice
      subst eo
      obtain ⟨ep, hpl, hpc⟩ : v4 = .slice (some ⟨wC.heap.size, 0, none⟩) (m + 1) (m + 1) ∧ wC.heap.size < wD.heap.size ∧ wD.cell? ⟨wC.heap.size, m, none⟩ = some (.int .u8 91) := by
        obtain ⟨-, ⟨e, -⟩ | ⟨-, e, hlt, hc⟩⟩ := hRD
        · cases e
        · exact ⟨e, hlt, by have := hc m (by omega); rw [Htop'.out] at this; exact this⟩
      subst ep
      have k9 := make_any a0 _ a2 1 _ false a4 a7 ao (some ⟨wC.heap.size, 0, none⟩) n1 co (m + 1) (m + 1) rfl rfl wD
      refine Lib.hid ?_
      go_wp2_with (first | (go_at_call 9; refine k9.mono ?_; rintro e wE ⟨rfl, hBx, hbE⟩; refine Hid.out ?_) | go_in)
      have hIn : In wD.heap.size wC.heap.size m 91 a0 (.slice ao n1 co) a2 1 false a4 a7 wE := ⟨hBx, hpl, by omega, by rw [hbE.cell hpl]; exact hpc⟩
      have hl3 : w.heap.size ≤ wD.heap.size := hB3.size
      have H1 := Lib.hid hR1D
      have H2 := Lib.hid hR2D
      have H3 := Lib.hid hR3D
      have H4 := Lib.hid hRD
      have HSc := Lib.hid hscD
      have HbE := Lib.hid hbE
      have HIn := Lib.hid hIn
      clear k9 hR1D hR2D hR3D hRD hscD hBx hbE hIn hpc hpl
      refine Lib.hid ?_
      go_wp2
      go_loopw [18] (fun i wr => ∃ k : Nat, k ≤ 3 ∧ i = .int .i64 k ∧ In wD.heap.size wC.heap.size m 91 a0 (.slice ao n1 co) a2 (stA k) false a4 a7 wr ∧ Below wD.heap.size wE wr) (fun i _ => 3 - (intOf i).toNat)
      case atStart => exact ⟨0, Nat.zero_le _, rfl, HIn.out, Below.refl _ _⟩
      case round =>
        obtain ⟨k, hk, rfl, hI, hb⟩ := hrel
        have Hb := Lib.hid hb
        have hAll : Below wD.heap.size wD wr := HbE.out.trans hb
        by_cases hlt : k < 3
        · have hlt' : (k : Int) < 3 := by omega
          have hd := (HSc.out.old hAll).2 k hlt
          have k18 := zzQuick_any wD.heap.size wC.heap.size m 91 a0 (.slice ao n1 co) a2 (stA k) false a4 a7 (scA k) (stA (k + 1)) false (stepA k hlt) wr hI
          obtain ⟨y, hy⟩ : ∃ y, scA k = y := ⟨_, rfl⟩
          rw [hy] at hd k18
          clear hy hI hb hAll
          go_wp2_with (first | (go_at_call 18; refine k18.mono ?_; rintro e wF ⟨rfl, hI2, hb2⟩; refine Hid.out ?_) | go_in)
          have HI2 := Lib.hid hI2
          have Hb2 := Lib.hid hb2
          clear k18 hI2 hb2
          refine Lib.hid ?_
          go_wp2
          go_roundw
          case rel => exact ⟨k + 1, by omega, by go_num, HI2.out, Hb.out.trans Hb2.out⟩
          case measure => simp [intOf]; omega
        · obtain rfl : k = 3 := by omega
          have hI3 : In wD.heap.size wC.heap.size m 91 a0 (.slice ao n1 co) a2 0 false a4 a7 wr := hI
          have k18 := zzQuick_refuses wD.heap.size a0 _ a2 0 _ false a4 a7 (by decide) wr hI3.box
          have k13 := untouched_any wD.heap.size a0 _ a2 _ _ false a4 a7 z1 false v1 v2 _ _ _ _ n1 (m + 1) l1 l4 wr hI3.box (H3.out.old hAll) (H1.out.old hAll) (H4.out.old hAll) (H2.out.old hAll) (by omega) (by omega)
          have hfin : Below w.heap.size w wr := hB3.trans (hAll.mono hl3)
          obtain ⟨d0, d1, d2, d3, d4, d5, d6, d7⟩ := hI3.box.cells
          clear hI hI3 hb hAll d0 d1 d2 d4 d6 d7 H1 H2 H3 H4 HSc HbE HIn hB3
          go_wp2_with (first | (go_at_call 18; refine k18.mono ?_; rintro e wF ⟨rfl, rfl⟩; refine Hid.out ?_) | go_in)
          clear k18
          refine Lib.hid ?_
          go_wp2_with (first | (go_at_call 13; refine k13.mono ?_; rintro e wH ⟨rfl, q, rfl⟩; refine Hid.out ?_) | go_in)
          clear k13
          refine Lib.hid ?_
          go_wp2
          go_ret
          exact ⟨rfl, below_drewN hfin _⟩
    have t1' : ((top : Int) != 123) = true := by simp; omega
    have t2' : ((top : Int) != 91) = true := by simp; omega
    go_wp2
    go_ret
    exact ⟨rfl, Below.refl _ _⟩
end Go.Proofs.Qxb6602638a
