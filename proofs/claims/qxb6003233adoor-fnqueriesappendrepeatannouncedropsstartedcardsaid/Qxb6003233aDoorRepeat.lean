/-
  DERIVED. THE WALK of FnQueriesAppendRepeatAnnounceDropsStarted (function 5).
-/
import Derived.Test.Qxb6003233aDoorShim
namespace Go.Proofs.Qxb6003233aDoor
open Go.RowKit

theorem body_len (T : Nat) (hash : Nat → ByteArray) (p : Nat) : 0 < (body T hash p).length := by
  unfold body; simp only [List.length_append, List.length_cons]; omega
/-- The same peer's announces, P later. -/
theorem qry_later (P T : Nat) (hash : Nat → ByteArray) (i : Nat) : qry P T hash (i + P) = body T hash (i % P) := by
  unfold qry; rw [Nat.add_mod_right, if_neg (by omega), List.append_nil]
theorem qry_first (P T : Nat) (hash : Nat → ByteArray) (i : Nat) (h : i < P) : qry P T hash i = body T hash (i % P) ++ startedTail := by
  unfold qry; rw [if_pos h]
theorem qry_after (P T : Nat) (hash : Nat → ByteArray) (i : Nat) (h : ¬ i < P) : qry P T hash i = body T hash (i % P) := by
  unfold qry; rw [if_neg h, List.append_nil]

theorem body_len_le (T m : Nat) (hash : Nat → ByteArray) (p : Nat) (hT : 1 ≤ T) (hTm : T ≤ m) (hsz : ∀ j, j < m → (hash j).size ≤ 1048576) (hp : p < 9223372036854775808) : (body T hash p).length ≤ 1048976 := by
  have h1 := hsz (p % T) (Nat.lt_of_lt_of_le (Nat.mod_lt _ (by omega)) hTm)
  have h2 := pad_len_le 12 p hp
  have h3 := Lib.itoa_length_le ((1024 + p / T % 60000 : Nat) : Int) (by omega) (by omega)
  have h4 := Lib.itoa_length_le ((if p / T % 4 = 0 then 0 else 1048576 : Nat) : Int) (by omega) (by split <;> omega)
  have h5 := Lib.itoa_length_le 50 (by omega) (by omega)
  have h6 := str_len (hash (p % T))
  unfold body
  simp only [List.length_append, List.length_cons, List.length_nil]
  omega

/-- zzEqual of two rows that hold the same. -/
theorem equal_rows (g1 g2 n c1 c2 B1 B2 : Nat) (l : List UInt8) (w : World) (h1 : w.ownsRow B1 5 1 (.slice (some ⟨g1, 0, none⟩) n c1) n (cellsOf l)) (h2 : w.ownsRow B2 5 1 (.slice (some ⟨g2, 0, none⟩) n c2) n (cellsOf l)) (hn : n ≤ 1073741824) :
    Calls Tryd.prog 10 #[.slice (some ⟨g1, 0, none⟩) n c1, .slice (some ⟨g2, 0, none⟩) n c2] w fun e w' => e = .returned (.bool true) ∧ ∃ q, w' = w.drewN q :=
  equal_lit g1 g2 n c1 c2 l hn w (fun j hj => row_cell_at h1 j hj) (fun j hj => row_cell_at h2 j hj)

theorem Reads.old {v : Value} {n : Nat} {l : List UInt8} {w w' : World} (h : Reads v n l w) (hb : Below w.heap.size w w') : Reads v n l w' := by
  obtain ⟨base, c, e, h2, h3, h4⟩ := h
  exact ⟨base, c, e, h2, h3, fun ad ea => ⟨fun h0 => by have := (h4 ad ea).1 h0; have := hb.size; omega, fun j hj => by rw [hb.cell (by rw [add_block]; exact (h4 ad ea).1 (by omega))]; exact (h4 ad ea).2 j hj⟩⟩

set_option maxHeartbeats 8000000 in
theorem repeat_any (P T I : Int) (base : Option Addr) (m c : Nat) (hash : Nat → ByteArray) (v : Value) (len : Nat) (l : List UInt8) (w : World) (hS : SReads base m hash w) (hm : m ≤ maxLen) (hR : Reads v len l w) (hlen : len ≤ maxLen)
    (wP : (Lit.int .i64 P).wf = true) (wT : (Lit.int .i64 T).wf = true) (wI : (Lit.int .i64 I).wf = true) (hL : Laid w) :
    Calls Tryd.prog 5 #[.int .i64 P, .int .i64 T, .slice base m c, v, .int .i64 I] w fun e w' => e = .returned (.bool true) ∧ Below w.heap.size w w' := by
  have e1 : IntKind.i64.max = 9223372036854775807 := rfl
  have e2 : IntKind.i64.min = -9223372036854775808 := rfl
  simp [Lit.wf, e1, e2] at wP wT wI
  clear e1 e2
  have HR := Lib.hid hR
  obtain ⟨a, cap, rfl, -⟩ := hR
  have k20 := fun w' (h : w' = w) => zzBytes_any P T I base m c hash a len cap w' (by rw [h]; exact hS) hm hlen
  have HS := Lib.hid hS
  unfold maxLen at hm hlen
  clear hS
  go_enter Tryd.func5, Tryd.ntmps5
  go_wp2_with (go_at_call 20; refine (k20 _ rfl).mono ?_; rintro e w1 ⟨⟨b, rfl, hb⟩, rfl⟩; refine Hid.out ?_)
  clear k20
  cases b with
  | false =>
    refine Lib.hid ?_
    go_wp2
    go_ret
    exact ⟨rfl, Below.refl _ _⟩
  | true =>
    have Hsz : Hid (∀ j, j < m → (hash j).size ≤ 1048576) := hb rfl
    clear hb
    by_cases h1 : 1048576 < len
    · have h1' : (1048576 : Int) < (len : Int) := by omega
      refine Lib.hid ?_
      go_wp2
      go_ret
      exact ⟨rfl, Below.refl _ _⟩
    have h1' : ¬ (1048576 : Int) < (len : Int) := by omega
    by_cases h2 : 65536 < m
    · have h2' : (65536 : Int) < (m : Int) := by omega
      refine Lib.hid ?_
      go_wp2
      go_ret
      exact ⟨rfl, Below.refl _ _⟩
    have h2' : ¬ (65536 : Int) < (m : Int) := by omega
    refine Lib.hid ?_
    go_wp2
    go_loop [11, 12] (fun z i => ∃ k t : Nat, k ≤ m ∧ i = .int .i64 k ∧ z = .int .i64 t ∧ t ≤ 2097152) (fun _ i => m - (intOf i).toNat)
    case atStart => exact ⟨0, len + 16 * m, Nat.zero_le _, rfl, by go_num, by omega⟩
    case round =>
      obtain ⟨k, t, hk, rfl, rfl, ht⟩ := hrel
      by_cases hlt : k < m
      · have hlt' : (k : Int) < (m : Int) := by omega
        obtain ⟨x, rfl⟩ : ∃ x, base = some x := by
          cases base with
          | none => have := HS.out.1 rfl; omega
          | some x => exact ⟨x, rfl⟩
        have hd := (HS.out.2 x rfl).2 k hlt
        have hk9 := Hsz.out k hlt
        by_cases h3 : 1048576 < t + (hash k).size
        · have h3' : (1048576 : Int) < (t : Int) + ((hash k).size : Int) := by omega
          go_wp2
          go_ret
          exact ⟨rfl, Below.refl _ _⟩
        have h3' : ¬ (1048576 : Int) < (t : Int) + ((hash k).size : Int) := by omega
        go_wp2
        go_round
        case rel => exact ⟨k + 1, t + (hash k).size, by omega, by go_num, by go_num, by omega⟩
        case measure => simp [intOf]; omega
      · obtain rfl : k = m := by omega
        have hge : ¬ ((k : Int) < (k : Int)) := by omega
        have hlen2 : len ≤ 1048576 := by omega
        have hk2 : k ≤ 65536 := by omega
        clear h1 h2 h1' h2' ht hlen hm
        by_cases hP : P < 1
        · go_wp2
          go_ret
          exact ⟨rfl, Below.refl _ _⟩
        by_cases hT : T < 1
        · go_wp2
          go_ret
          exact ⟨rfl, Below.refl _ _⟩
        by_cases hI : I < 0
        · go_wp2
          go_ret
          exact ⟨rfl, Below.refl _ _⟩
        obtain ⟨p, rfl⟩ := Int.eq_ofNat_of_zero_le (show 0 ≤ P by omega)
        obtain ⟨q, rfl⟩ := Int.eq_ofNat_of_zero_le (show 0 ≤ T by omega)
        obtain ⟨i, rfl⟩ := Int.eq_ofNat_of_zero_le (show 0 ≤ I by omega)
        by_cases hkT : k < q
        · have hkT' : (k : Int) < (q : Int) := by omega
          go_wp2
          go_ret
          exact ⟨rfl, Below.refl _ _⟩
        have hkT' : ¬ (k : Int) < (q : Int) := by omega
        by_cases hov : 9223372036854775807 - (p : Int) < (i : Int)
        · go_wp2
          go_ret
          exact ⟨rfl, Below.refl _ _⟩
        obtain ⟨x, rfl⟩ : ∃ x, base = some x := by
          cases base with
          | none => have := HS.out.1 rfl; omega
          | some x => exact ⟨x, rfl⟩
        have hlow := hL.2
        have k13 := cloneStrs_any x k c hash w (by omega) (HS.out.2 x rfl).1 (HS.out.2 x rfl).2
        clear HS
        go_wp2_with (first | (go_at_call 13; refine k13.mono ?_; rintro e wA ⟨rfl, hSA, hbA⟩; refine Hid.out ?_) | go_in)
        have k8 := clone_any _ len l wA (HR.out.old hbA) (by omega)
        clear k13 HR
        refine Lib.hid ?_
        go_wp2_with (first | (go_at_call 8; refine k8.mono ?_; rintro e wB ⟨v1, rfl, hC1, hbB⟩; refine Hid.out ?_) | go_in)
        have hSB := hSA.old hbB
        have hB1 : Below w.heap.size w wB := hbA.trans (hbB.mono hbA.size)
        have k14 := zzQ_any wA.heap.size w.heap.size k len p q i hash v1 l wB hC1 hbB.size hSB (by omega) (by omega) (by omega) (by omega) (by omega) Hsz.out (hL.below hB1 hlow)
        clear k8 hSA hbB hbA
        refine Lib.hid ?_
        go_wp2_with (first | (go_at_call 14; refine k14.mono ?_; rintro e wC ⟨vF, rfl, hF, hvF, hbC⟩; refine Hid.out ?_) | go_in)
        have hSC := hSB.old hbC
        have hC1C := hC1.old hbC
        have hB2 : Below w.heap.size w wC := hB1.trans (hbC.mono hB1.size)
        have k8 := clone_any v1 len l wC hC1C.reads (by omega)
        clear k14 hSB hC1 hbC hB1
        refine Lib.hid ?_
        go_wp2_with (first | (go_at_call 8; refine k8.mono ?_; rintro e wD ⟨v2, rfl, hC2, hbD⟩; refine Hid.out ?_) | go_in)
        have hSD := hSC.old hbD
        have hFD := ownsRow_old hF hbD
        have hB3 : Below w.heap.size w wD := hB2.trans (hbD.mono hB2.size)
        have k14 := zzQ_any wC.heap.size w.heap.size k len p q (i + p) hash v2 l wD hC2 hbD.size hSD (by omega) (by omega) (by omega) (by omega) (by omega) Hsz.out (hL.below hB3 hlow)
        rw [Int.natCast_add] at k14
        obtain ⟨bs1, c1, e⟩ : ∃ bs c1, v1 = .slice bs len c1 := by
          obtain ⟨-, ⟨rfl, rfl⟩ | ⟨rfl, -, -⟩⟩ := hC1C
          · exact ⟨none, 0, rfl⟩
          · exact ⟨_, _, rfl⟩
        subst e
        clear k8 hSC hC1C hF hbD hB2
        refine Lib.hid ?_
        go_wp2_with (first | (go_at_call 14; refine k14.mono ?_; rintro e wE ⟨vG, rfl, hG, hvG, hbE⟩; refine Hid.out ?_) | go_in)
        have hFE := ownsRow_old hFD hbE
        have hB4 : Below w.heap.size w wE := hB3.trans (hbE.mono hB3.size)
        clear k14 hSD hC2 hFD hbE hB3 hL
        have hbl := body_len q hash (i % p)
        have hbl2 := body_len_le q k hash (i % p) (by omega) (by omega) Hsz.out (Nat.lt_of_le_of_lt (Nat.mod_le _ _) (by omega))
        obtain ⟨N1, hN1⟩ : ∃ N, len + (qry p q hash i).length = N := ⟨_, rfl⟩
        rw [hN1] at hFE
        rw [qry_later] at hG
        obtain ⟨N2, hN2⟩ : ∃ N, len + (body q hash (i % p)).length = N := ⟨_, rfl⟩
        rw [hN2] at hG
        rcases hFE.2 with ⟨e, -⟩ | ⟨ga, ca, cura, e, -, -, hca, hca2, -⟩
        · exact absurd e hvF
        subst e
        rcases hG.2 with ⟨e, -⟩ | ⟨gb, cb, curb, e, hgb0, hgb, hcb, hcb2, -⟩
        · exact absurd e hvG
        subst e
        clear cura hca hca2 hcb hcb2 hvF hvG
        have hgbl : gb < wE.heap.size := (Array.getElem?_eq_some_iff.1 hgb).1
        clear hgb hgb0
        have hN2b : N2 ≤ 2097552 := by omega
        have hN2l : len < N2 := by omega
        have hl2 : (l ++ body q hash (i % p)).length = N2 := by have := hG.1; rw [cellsOf_length] at this; omega
        by_cases hip : i < p
        · have hip' : (i : Int) < (p : Int) := by omega
          rw [qry_first p q hash i hip] at hFE hN1
          have e14 : N2 + 14 = N1 := by rw [← hN1, ← hN2, List.length_append]; rfl
          clear hN1 hN2 hbl hbl2
          have hle : ¬ ((N1 : Int) ≤ (len : Int)) := by omega
          have k21 : Calls Tryd.prog 21 #[.slice (some ⟨gb, 0, none⟩) N2 cb, .string ⟨#[38, 101, 118, 101, 110, 116, 61, 115, 116, 97, 114, 116, 101, 100]⟩] wE fun e w' => ∃ v', e = .returned v' ∧ w'.ownsRow wE.heap.size 5 1 v' (N2 + 14) (cellsOf (l ++ body q hash (i % p) ++ startedTail)) ∧ v' ≠ .slice none 0 0 ∧ Below wE.heap.size wE w' :=
            appendStr_any gb N2 cb (l ++ body q hash (i % p)) ⟨#[38, 101, 118, 101, 110, 116, 61, 115, 116, 97, 114, 116, 101, 100]⟩ wE hl2 hgbl (fun j hj => row_cell_at hG j hj) (by omega) (by decide)
          rw [e14, List.append_assoc] at k21
          have HF := Lib.hid hFE
          have hN1b : N1 ≤ 1073741824 := by omega
          clear hFE hG hl2 e14
          refine Lib.hid ?_
          go_wp2_with (first | (go_at_call 21; refine k21.mono ?_; rintro e wF ⟨vH, rfl, hH, hvH, hbF⟩; refine Hid.out ?_) | go_in)
          have hFF := ownsRow_old HF.out hbF
          have hB5 : Below w.heap.size w wF := hB4.trans (hbF.mono hB4.size)
          rcases hH.2 with ⟨e, -⟩ | ⟨gh, ch, curh, e, -⟩
          · exact absurd e hvH
          subst e
          have k10 := equal_rows ga gh N1 ca ch _ _ _ wF hFF hH hN1b
          clear k21 HF hFF hH hvH hbF hB4
          refine Lib.hid ?_
          go_wp2_with (first | (go_at_call 10; refine k10.mono ?_; rintro e wG ⟨rfl, hq⟩; refine Hid.out ?_) | go_in)
          obtain ⟨z, rfl⟩ := hq
          clear k10
          refine Lib.hid ?_
          go_wp2
          go_ret
          exact ⟨rfl, below_drewN hB5 _⟩
        · have hip' : ¬ (i : Int) < (p : Int) := by omega
          rw [qry_after p q hash i hip] at hFE hN1
          have eN : N2 = N1 := hN2.symm.trans hN1
          clear hN1 hN2 hbl hbl2
          subst eN
          have hle : ¬ ((N2 : Int) ≤ (len : Int)) := by omega
          have k10 := equal_rows ga gb N2 ca cb _ _ _ wE hFE hG (by omega)
          clear hFE hG hl2
          refine Lib.hid ?_
          go_wp2_with (first | (go_at_call 10; refine k10.mono ?_; rintro e wG ⟨rfl, hq⟩; refine Hid.out ?_) | go_in)
          obtain ⟨z, rfl⟩ := hq
          clear k10
          refine Lib.hid ?_
          go_wp2
          go_ret
          exact ⟨rfl, below_drewN hB4 _⟩
end Go.Proofs.Qxb6003233aDoor
