/-
  DERIVED. THE WALK of FnAppendPaddedSortsAsNumbers (function 3).
-/
import Derived.Test.Qxb6003233aDoorDec
import Derived.WalkSmall
namespace Go.Proofs.Qxb6003233aDoor
open Go.RowKit

/-! ### The padded numerals, compared -/
theorem pad_len (W N : Nat) (h : Lib.nDigits N ≤ W) : (pad W N).length = W := by
  unfold pad; rw [List.length_append, List.length_replicate, Lib.decDigits_length]; omega
theorem pad_val (W N : Nat) : Pl.val 0 (pad W N) = N := by
  unfold pad; rw [Pl.val_zeros, Pl.decDigits_val N N (Nat.le_refl _)]
theorem pad_digs (W N : Nat) : Pl.digs (pad W N) := by
  unfold pad
  intro c hc
  rcases List.mem_append.1 hc with h | h
  · obtain ⟨_, rfl⟩ := List.mem_replicate.1 h; decide
  · exact Pl.decDigits_digs N N (Nat.le_refl _) c h
theorem pad_lt (W N M : Nat) (hN : Lib.nDigits N ≤ W) (hM : Lib.nDigits M ≤ W) (h : N < M) :
    ∃ j, j < W ∧ (∀ k, k < j → (pad W N).getD k 0 = (pad W M).getD k 0) ∧ ((pad W N).getD j 0).toNat < ((pad W M).getD j 0).toNat := by
  have lN := pad_len W N hN
  have lM := pad_len W M hM
  rcases Pl.first_diff (pad W N) (pad W M) (by omega) with e | ⟨j, h1, h2, h3⟩
  · have := pad_val W N; rw [e, pad_val] at this; omega
  · refine ⟨j, by omega, fun k hk => Pl.take_getD _ _ j k h2 hk, ?_⟩
    have hne : ((pad W N).getD j 0).toNat ≠ ((pad W M).getD j 0).toNat := fun e => h3 (UInt8.toNat_inj.1 e)
    by_cases hgt : ((pad W M).getD j 0).toNat < ((pad W N).getD j 0).toNat
    · have := Pl.less_of_digit (pad W M) (pad W N) (pad_digs W M) (pad_digs W N) (by omega) j (by omega) h2.symm hgt
      rw [pad_val, pad_val] at this; omega
    · omega

/-- What the row's condition gives the walks. -/
def Laid (w : World) : Prop := Lib.TabIs Tryd.prog w powName .u64 Lib.pow10Tab ∧ 0 < w.heap.size
theorem Laid.below {w w' : World} {B : Nat} (h : Laid w) (hb : Below B w w') (hB : 0 < B) : Laid w' :=
  ⟨var?_below hb gPow hB h.1, Nat.lt_of_lt_of_le h.2 hb.size⟩

theorem row_cell_at {w : World} {B g n cap : Nat} {l : List UInt8} (h : w.ownsRow B 5 1 (.slice (some ⟨g, 0, none⟩) n cap) n (cellsOf l)) (j : Nat) (hj : j < n) : w.cell? ⟨g, j, none⟩ = some (.int .u8 ((l.getD j 0).toNat : Int)) := by
  have hl : l.length = n := by have := h.1; rw [cellsOf_length] at this; omega
  rw [h.cellAt j (by omega)]
  simp [cellsOf, hl, hj]

theorem getD_left (l m : List UInt8) (j : Nat) (h : j < l.length) : (l ++ m).getD j 0 = l.getD j 0 := by
  rw [List.getD_eq_getElem?_getD, List.getD_eq_getElem?_getD, List.getElem?_append_left h]
theorem getD_right (l m : List UInt8) (n j : Nat) (h : l.length = n) : (l ++ m).getD (n + j) 0 = m.getD j 0 := by
  rw [List.getD_eq_getElem?_getD, List.getD_eq_getElem?_getD, List.getElem?_append_right (by omega), show n + j - l.length = j by omega]

/-- 'x[n:]' of a row with something behind n. -/
theorem slice_from (g n m cap : Nat) (hc : n + m ≤ cap) (hm : 1 ≤ m) (w : World) :
    (Instr.slice 22 (.slice (some ⟨g, 0, none⟩) (n + m) cap) (some (.int .i64 (n : Int))) none none).run Tryd.prog w = .ok (.slice (some ⟨g, n, none⟩) m (cap - n)) w := by
  have hel : Tryd.prog.elem 22 = 5 := by kernel_rfl
  have hsz : (sizeOf 5).run Tryd.prog w = .ok 1 w := by kernel_rfl
  rw [run_slice_l w 22 (some ⟨g, 0, none⟩) (n + m) cap (by rw [hel]; exact Tryd.underlying22) .i64 (n : Int) (by omega) (by omega), hel, hsz]
  simp [sliced, Addr.add, show ¬ (cap = n) by omega]
  omega

theorem clone_drew {b n : Nat} {v : Value} {l : List UInt8} {w : World} (h : Clone b v n l w) (q : Nat) : Clone b v n l (w.drewN q) := h
/-- bytes.Equal of a row's first bytes and a clone that holds them. -/
theorem equal_clone {b n : Nat} {v : Value} {l : List UInt8} {w : World} (g cap : Nat) (h : Clone b v n l w) (hn : n ≤ 1073741824) (hc : ∀ j, j < n → w.cell? ⟨g, j, none⟩ = some (.int .u8 ((l.getD j 0).toNat : Int))) :
    Calls Tryd.prog 10 #[.slice (some ⟨g, 0, none⟩) n cap, v] w fun e w' => e = .returned (.bool true) ∧ ∃ q, w' = w.drewN q := by
  obtain ⟨hl, ⟨rfl, rfl⟩ | ⟨rfl, h1, h2⟩⟩ := h
  · exact equal_zero g 0 cap w
  · exact equal_lit g b n cap n l hn w hc h2

/-! ### The ways on which the law lets the input by -/
theorem sorts_big (a : Option Addr) (len c : Nat) (n m W : Int) (w : World) (h1 : 1048576 < len) (h2 : len ≤ maxLen) :
    Calls Tryd.prog 3 #[.slice a len c, .int .i64 n, .int .i64 m, .int .i64 W] w fun e w' => e = .returned (.bool true) ∧ Below w.heap.size w w' := by
  unfold maxLen at h2
  have hb : (1048576 : Int) < (len : Int) := by omega
  go_enter Tryd.func3, Tryd.ntmps3
  go_wp2
  go_ret
  exact ⟨rfl, Below.refl _ _⟩
theorem sorts_width (a : Option Addr) (len c : Nat) (n m W : Int) (w : World) (h1 : len ≤ 1048576) (h2 : W < 1 ∨ 65536 < W) :
    Calls Tryd.prog 3 #[.slice a len c, .int .i64 n, .int .i64 m, .int .i64 W] w fun e w' => e = .returned (.bool true) ∧ Below w.heap.size w w' := by
  have hb : ¬ (1048576 : Int) < (len : Int) := by omega
  by_cases h3 : W < 1
  · clear h2
    go_enter Tryd.func3, Tryd.ntmps3
    go_wp2
    go_ret
    exact ⟨rfl, Below.refl _ _⟩
  · have h4 : 65536 < W := by omega
    clear h2
    go_enter Tryd.func3, Tryd.ntmps3
    go_wp2
    go_ret
    exact ⟨rfl, Below.refl _ _⟩
theorem sorts_neg (a : Option Addr) (len c : Nat) (n m W : Int) (w : World) (h1 : len ≤ 1048576) (hW1 : 1 ≤ W) (hW2 : W ≤ 65536) (h2 : n < 0 ∨ m < 0) :
    Calls Tryd.prog 3 #[.slice a len c, .int .i64 n, .int .i64 m, .int .i64 W] w fun e w' => e = .returned (.bool true) ∧ Below w.heap.size w w' := by
  have hb : ¬ (1048576 : Int) < (len : Int) := by omega
  by_cases h3 : n < 0
  · clear h2
    go_enter Tryd.func3, Tryd.ntmps3
    go_wp2
    go_ret
    exact ⟨rfl, Below.refl _ _⟩
  · have h4 : m < 0 := by omega
    clear h2
    go_enter Tryd.func3, Tryd.ntmps3
    go_wp2
    go_ret
    exact ⟨rfl, Below.refl _ _⟩
theorem sorts_wide (a : Option Addr) (len c : Nat) (N M W : Nat) (w : World) (h1 : len ≤ 1048576) (hW1 : 1 ≤ W) (hW2 : W ≤ 65536) (hN : N < 9223372036854775808) (hM : M < 9223372036854775808) (h2 : W < Lib.nDigits N ∨ W < Lib.nDigits M) :
    Calls Tryd.prog 3 #[.slice a len c, .int .i64 N, .int .i64 M, .int .i64 W] w fun e w' => e = .returned (.bool true) ∧ Below w.heap.size w w' := by
  have hb : ¬ (1048576 : Int) < (len : Int) := by omega
  have hw1 : ¬ ((W : Int) < 1) := by omega
  have hw2 : ¬ ((65536 : Int) < (W : Int)) := by omega
  have hn0 : ¬ ((N : Int) < 0) := by omega
  have hm0 : ¬ ((M : Int) < 0) := by omega
  have kN := fun w => decimal_any N hN w
  have kM := fun w => decimal_any M hM w
  obtain ⟨dN, hdN⟩ : ∃ d, Lib.nDigits N = d := ⟨_, rfl⟩
  obtain ⟨dM, hdM⟩ : ∃ d, Lib.nDigits M = d := ⟨_, rfl⟩
  have hd20 := Lib.nDigits_le20 N (by omega)
  rw [hdN] at kN h2 hd20
  rw [hdM] at kM h2
  clear hdN hdM
  by_cases h3 : W < dN
  · have h3' : (W : Int) < (dN : Int) := by omega
    clear h2
    go_enter Tryd.func3, Tryd.ntmps3
    go_wp2_with (first | (go_at_call 7; refine (kN _).mono ?_; rintro e w1 ⟨⟨b1, c1, rfl⟩, hb1⟩) | go_in)
    go_ret
    exact ⟨rfl, hb1⟩
  · have h3' : ¬ ((W : Int) < (dN : Int)) := by omega
    have h4 : (W : Int) < (dM : Int) := by omega
    clear h2
    go_enter Tryd.func3, Tryd.ntmps3
    go_wp2_with (first | (go_at_call_of 7 (Value.int .i64 (N : Int)); refine (kN _).mono ?_; rintro e w1 ⟨⟨b1, c1, rfl⟩, hb1⟩; refine Hid.out ?_) | go_in)
    refine Lib.hid ?_
    go_wp2_with (first | (go_at_call 7; refine (kM _).mono ?_; rintro e w2 ⟨⟨b2, c2, rfl⟩, hb2⟩) | go_in)
    go_ret
    exact ⟨rfl, hb1.trans (hb2.mono hb1.size)⟩

/-! ### The main way -/
set_option maxHeartbeats 4000000 in
theorem sorts_main (v : Value) (len : Nat) (l : List UInt8) (N M W : Nat) (w : World) (hR : Reads v len l w) (h1 : len ≤ 1048576) (hW1 : 1 ≤ W) (hW2 : W ≤ 65536) (hN : N < 9223372036854775808) (hM : M < 9223372036854775808)
    (hdN : Lib.nDigits N ≤ W) (hdM : Lib.nDigits M ≤ W) (hL : Laid w) :
    Calls Tryd.prog 3 #[v, .int .i64 N, .int .i64 M, .int .i64 W] w fun e w' => e = .returned (.bool true) ∧ Below w.heap.size w w' := by
  obtain ⟨base, c, rfl, hl, hnil, hcs⟩ := hR
  have HR : Hid (Reads (.slice base len c) len l w) := ⟨base, c, rfl, hl, hnil, hcs⟩
  clear hnil hcs hl
  have hb : ¬ (1048576 : Int) < (len : Int) := by omega
  have hw1 : ¬ ((W : Int) < 1) := by omega
  have hw2 : ¬ ((65536 : Int) < (W : Int)) := by omega
  have hn0 : ¬ ((N : Int) < 0) := by omega
  have hm0 : ¬ ((M : Int) < 0) := by omega
  have kN := fun w => decimal_any N hN w
  have kM := fun w => decimal_any M hM w
  have HdN : Hid (Lib.nDigits N ≤ W) := hdN
  have HdM : Hid (Lib.nDigits M ≤ W) := hdM
  have hlow := hL.2
  obtain ⟨dN, eN⟩ : ∃ d, Lib.nDigits N = d := ⟨_, rfl⟩
  obtain ⟨dM, eM⟩ : ∃ d, Lib.nDigits M = d := ⟨_, rfl⟩
  rw [eN] at kN hdN
  rw [eM] at kM hdM
  clear eN eM
  have hdN' : ¬ ((W : Int) < (dN : Int)) := by omega
  have hdM' : ¬ ((W : Int) < (dM : Int)) := by omega
  go_enter Tryd.func3, Tryd.ntmps3
  go_wp2_with (first | (go_at_call 7; refine (kN _).mono ?_; rintro e wA ⟨⟨bA, cA, rfl⟩, hbA⟩; refine Hid.out ?_) | go_in)
  refine Lib.hid ?_
  go_wp2_with (first | (go_at_call 7; refine (kM _).mono ?_; rintro e wB ⟨⟨bB, cB, rfl⟩, hbB⟩; refine Hid.out ?_) | go_in)
  have hB0 : Below w.heap.size w wB := hbA.trans (hbB.mono hbA.size)
  have hRB : Reads (.slice base len c) len l wB := by
    obtain ⟨base', c', e, h2, h3, h4⟩ := HR.out
    injection e with e1 e2 e3
    subst e1 e3
    exact ⟨base, c, rfl, h2, h3, fun ad ea => ⟨fun h0 => by have := (h4 ad ea).1 h0; have := hB0.size; omega, fun j hj => by rw [hB0.cell (by rw [add_block]; exact (h4 ad ea).1 (by omega))]; exact (h4 ad ea).2 j hj⟩⟩
  have k8 := clone_any _ len l wB hRB h1
  clear kN kM hbA hbB HR hRB
  refine Lib.hid ?_
  go_wp2_with (first | (go_at_call 8; refine k8.mono ?_; rintro e wC ⟨v1, rfl, hC1, hbC⟩; refine Hid.out ?_) | go_in)
  have hLC : Laid wC := hL.below (hB0.trans (hbC.mono hB0.size)) hlow
  have hszC : wB.heap.size ≤ wC.heap.size := hbC.size
  have k9 := zzPadded_any wC.heap.size len W N v1 l wC hC1.appd (Nat.le_refl _) hN hW2 (by omega) hLC.1
  rw [pad_len W N HdN.out] at k9
  clear k8
  refine Lib.hid ?_
  go_wp2_with (first | (go_at_call 9; refine k9.mono ?_; rintro e wD ⟨va, rfl, hoA, hbD, hokD, hvA⟩; refine Hid.out ?_) | go_in)
  have hC1D := hC1.old hbD
  have k8 := clone_any v1 len l wD hC1D.reads h1
  clear k9 hokD
  refine Lib.hid ?_
  go_wp2_with (first | (go_at_call 8; refine k8.mono ?_; rintro e wE ⟨v2, rfl, hC2, hbE⟩; refine Hid.out ?_) | go_in)
  have hB1 : Below w.heap.size w wE := ((hB0.trans (hbC.mono hB0.size)).trans (hbD.mono (by have := hB0.size; omega))).trans (hbE.mono (by have := hB0.size; have := hbD.size; omega))
  have hLE : Laid wE := hL.below hB1 hlow
  have hC1E := hC1D.old hbE
  have hoAE := ownsRow_old hoA hbE
  have k9 := zzPadded_any wE.heap.size len W M v2 l wE hC2.appd (Nat.le_refl _) hM hW2 (by omega) hLE.1
  rw [pad_len W M HdM.out] at k9
  clear k8 hoA hC1D hC1 hLC hLE hbC hbD hbE hC2 hB0
  refine Lib.hid ?_
  go_wp2_with (first | (go_at_call 9; refine k9.mono ?_; rintro e wF ⟨vb, rfl, hoB, hbF, hokF, hvB⟩; refine Hid.out ?_) | go_in)
  have hC1F := hC1E.old hbF
  have hoAF := ownsRow_old hoAE hbF
  have hBF : Below w.heap.size w wF := hB1.trans (hbF.mono hB1.size)
  clear k9 hC1E hoAE hbF hokF hB1
  rcases hoAF.2 with ⟨e, -⟩ | ⟨ga, ca, cura, e, -, -, hca, hca2, -⟩
  · exact absurd e hvA
  subst e
  rcases hoB.2 with ⟨e, -⟩ | ⟨gb, cb, curb, e, -, -, hcb, hcb2, -⟩
  · exact absurd e hvB
  subst e
  unfold maxLen at hca2 hcb2
  have hlen : l.length = len := hC1F.1
  have HA : Hid (∀ j, j < len → wF.cell? ⟨ga, j, none⟩ = some (.int .u8 ((l.getD j 0).toNat : Int))) := fun j hj => by rw [row_cell_at hoAF j (by omega), getD_left l (pad W N) j (by omega)]
  have HB : Hid (∀ j, j < len → wF.cell? ⟨gb, j, none⟩ = some (.int .u8 ((l.getD j 0).toNat : Int))) := fun j hj => by rw [row_cell_at hoB j (by omega), getD_left l (pad W M) j (by omega)]
  have HPA : Hid (∀ j, j < W → wF.cell? ⟨ga, len + j, none⟩ = some (.int .u8 (((pad W N).getD j 0).toNat : Int))) := fun j hj => by rw [row_cell_at hoAF (len + j) (by omega), getD_right l (pad W N) len j hlen]
  have HPB : Hid (∀ j, j < W → wF.cell? ⟨gb, len + j, none⟩ = some (.int .u8 (((pad W M).getD j 0).toNat : Int))) := fun j hj => by rw [row_cell_at hoB (len + j) (by omega), getD_right l (pad W M) len j hlen]
  have hca3 : (len : Int) + (W : Int) ≤ (ca : Int) := by omega
  have hcb3 : (len : Int) + (W : Int) ≤ (cb : Int) := by omega
  have hca4 : ¬ ca = len := by omega
  have hcb4 : ¬ cb = len := by omega
  have hne : (((len : Int) + (W : Int)) != ((len : Int) + (W : Int))) = false := by simp
  have HC : Hid (Clone wB.heap.size v1 len l wF) := hC1F
  obtain ⟨bs, c1, e⟩ : ∃ bs c1, v1 = .slice bs len c1 := by
    obtain ⟨-, ⟨rfl, rfl⟩ | ⟨rfl, -, -⟩⟩ := hC1F
    · exact ⟨none, 0, rfl⟩
    · exact ⟨_, _, rfl⟩
  clear hoAF hoB hvA hvB hlen hC1F
  subst e
  have kA := equal_clone ga ca HC.out (by omega) HA.out
  refine Lib.hid ?_
  go_wp2_with (first | (go_at_call 10; refine kA.mono ?_; rintro e wG ⟨rfl, hq⟩; refine Hid.out ?_) | go_in)
  have HB2 : Hid (∀ j, j < len → wG.cell? ⟨gb, j, none⟩ = some (.int .u8 ((l.getD j 0).toNat : Int))) := by obtain ⟨q, rfl⟩ := hq; exact HB
  have HC2 : Hid (Clone wB.heap.size (.slice bs len c1) len l wG) := by obtain ⟨q, rfl⟩ := hq; exact clone_drew HC.out q
  have HPA2 : Hid (∀ j, j < W → wG.cell? ⟨ga, len + j, none⟩ = some (.int .u8 (((pad W N).getD j 0).toNat : Int))) := by obtain ⟨q, rfl⟩ := hq; exact HPA
  have HPB2 : Hid (∀ j, j < W → wG.cell? ⟨gb, len + j, none⟩ = some (.int .u8 (((pad W M).getD j 0).toNat : Int))) := by obtain ⟨q, rfl⟩ := hq; exact HPB
  have hBG : Below w.heap.size w wG := by obtain ⟨q, rfl⟩ := hq; exact below_drewN hBF q
  have kB := equal_clone gb cb HC2.out (by omega) HB2.out
  clear kA hq HA HB HPA HPB hBF
  refine Lib.hid ?_
  go_wp2_with (first | (go_at_call 10; refine kB.mono ?_; rintro e wH ⟨rfl, hq⟩; refine Hid.out ?_) | go_in)
  have HPA3 : Hid (∀ j, j < W → wH.cell? ⟨ga, len + j, none⟩ = some (.int .u8 (((pad W N).getD j 0).toNat : Int))) := by obtain ⟨q, rfl⟩ := hq; exact HPA2
  have HPB3 : Hid (∀ j, j < W → wH.cell? ⟨gb, len + j, none⟩ = some (.int .u8 (((pad W M).getD j 0).toNat : Int))) := by obtain ⟨q, rfl⟩ := hq; exact HPB2
  have hBH : Below w.heap.size w wH := by obtain ⟨q, rfl⟩ := hq; exact below_drewN hBG q
  clear kB hq HB2 HPA2 HPB2 hBG HC HC2
  have key : ∃ r : Int, Hid (r = if N < M then -1 else if M < N then 1 else 0) ∧ ∀ q, Calls Tryd.prog 11 #[.slice (some ⟨ga, len, none⟩) W (ca - len), .slice (some ⟨gb, len, none⟩) W (cb - len)] (wH.drewN q) fun e w' => e = .returned (.int .i64 r) ∧ ∃ m, w' = (wH.drewN q).drewN m := by
    rcases Nat.lt_trichotomy N M with hlt | heq | hgt
    · obtain ⟨j, h3, h4, h5⟩ := pad_lt W N M HdN.out HdM.out hlt
      exact ⟨-1, by rw [if_pos hlt]; exact rfl, fun q => compare_lt ga gb len W (ca - len) (cb - len) (pad W N) (pad W M) (by omega) j h3 h4 h5 _ HPA3.out HPB3.out⟩
    · subst heq
      exact ⟨0, by rw [if_neg (by omega), if_neg (by omega)]; exact rfl, fun q => compare_eq ga gb len W (ca - len) (cb - len) (pad W N) (by omega) _ HPA3.out HPB3.out⟩
    · obtain ⟨j, h3, h4, h5⟩ := pad_lt W M N HdM.out HdN.out hgt
      exact ⟨1, by rw [if_neg (by omega), if_pos hgt]; exact rfl, fun q => compare_gt ga gb len W (ca - len) (cb - len) (pad W N) (pad W M) (by omega) j h3 (fun k hk => (h4 k hk).symm) h5 _ HPA3.out HPB3.out⟩
  obtain ⟨r, Hr, kC⟩ := key
  have hslA := slice_from ga len W ca hca hW1
  have hslB := slice_from gb len W cb hcb hW1
  clear HPA3 HPB3
  refine Lib.hid ?_
  rcases Nat.lt_trichotomy N M with hlt | heq | hgt
  · have hlt' : (N : Int) < (M : Int) := by omega
    have hr : r = -1 := by rw [Hr.out, if_pos hlt]
    subst hr
    go_wp2_with fail
    go_quiet ((go_at_call 11; exact Calls.quiet_of (kC _)))
    go_wp2
    go_ret
    exact ⟨by simp, below_drewN hBH _⟩
  · have hlt1 : ¬ ((N : Int) < (M : Int)) := by omega
    have hlt2 : ¬ ((M : Int) < (N : Int)) := by omega
    have hr : r = 0 := by rw [Hr.out, if_neg (by omega), if_neg (by omega)]
    subst hr
    clear heq
    go_wp2_with fail
    go_quiet ((go_at_call 11; exact Calls.quiet_of (kC _)))
    go_wp2
    go_ret
    exact ⟨by simp, below_drewN hBH _⟩
  · have hlt1 : ¬ ((N : Int) < (M : Int)) := by omega
    have hlt2 : (M : Int) < (N : Int) := by omega
    have hr : r = 1 := by rw [Hr.out, if_neg (by omega), if_pos hgt]
    subst hr
    go_wp2_with fail
    go_quiet ((go_at_call 11; exact Calls.quiet_of (kC _)))
    go_wp2
    go_ret
    exact ⟨by simp, below_drewN hBH _⟩
end Go.Proofs.Qxb6003233aDoor
