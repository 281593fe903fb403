/-
  DERIVED. THE ROW AND THE TIED CARD OF FnAppendPaddedSortsAsNumbers.
-/
import Derived.Test.Qxb6003233aDoorLaid
import Derived.Test.Qxb6003233aDoorTie
import Derived.Test.Qxb6003233aDoorCards
import Derived.OpenShut
import Derived.ChangeOld
import Derived.Below
import Derived.SevenTiedAt
namespace Go.Proofs.Qxb6003233aDoor
open Go.ChangeShapes Go.WideShapes Go.ChangeAt Go.RowKit

theorem sorts_any (v : Value) (len : Nat) (l : List UInt8) (n m W : Int) (w : World) (hR : Reads v len l w) (hm : len ≤ maxLen) (wn : (Lit.int .i64 n).wf = true) (wm : (Lit.int .i64 m).wf = true) (hL : Laid w) :
    Calls Tryd.prog 3 #[v, .int .i64 n, .int .i64 m, .int .i64 W] w fun e w' => e = .returned (.bool true) ∧ Below w.heap.size w w' := by
  have e1 : IntKind.i64.max = 9223372036854775807 := rfl
  simp [Lit.wf, e1] at wn wm
  obtain ⟨base, c, e, -⟩ := id hR
  by_cases h1 : 1048576 < len
  · subst e; exact sorts_big base len c n m W w h1 hm
  by_cases h2 : W < 1 ∨ 65536 < W
  · subst e; exact sorts_width base len c n m W w (by omega) h2
  by_cases h3 : n < 0 ∨ m < 0
  · subst e; exact sorts_neg base len c n m W w (by omega) (by omega) (by omega) h3
  obtain ⟨N, rfl⟩ := Int.eq_ofNat_of_zero_le (show 0 ≤ n by omega)
  obtain ⟨M, rfl⟩ := Int.eq_ofNat_of_zero_le (show 0 ≤ m by omega)
  obtain ⟨X, rfl⟩ := Int.eq_ofNat_of_zero_le (show 0 ≤ W by omega)
  by_cases h4 : X < Lib.nDigits N ∨ X < Lib.nDigits M
  · subst e; exact sorts_wide base len c N M X w (by omega) (by omega) (by omega) (by omega) (by omega) h4
  · exact sorts_main v len l N M X w hR (by omega) (by omega) (by omega) (by omega) (by omega) (by omega) (by omega) hL

set_option maxRecDepth 100000 in
theorem sorts_lifted (os : Os) (started : os.Started) (H : Type) (enc : TypeId × Value → H) :
    ReturnsInHanded {} Tryd.checked os 3 .any (fun w args => (Rows.fnAppendPaddedSortsAsNumbersSpec.pre enc Tryd.prog Tryd.f3 [] false w args ∧ laidMetH Tryd.prog laid3 w) ∧ sizedMet enc Tryd.prog Tryd.f3 (OpenSpec.ofChange Rows.fnAppendPaddedSortsAsNumbersSpec) false w args)
      (Rows.fnAppendPaddedSortsAsNumbersSpec.post enc Tryd.prog Tryd.f3 false true false false) := by
  refine returnsInHanded_of_change_and (C := Tryd.checked) (X := fun w _ => laidMetH Tryd.prog laid3 w) (fun _ _ _ hh h => h.of_heap hh) own started (by kernel_rfl) Tryd.func3
    (ChangeSpec.witness_shaped (enc := enc) (C := Tryd.checked) (os := os) (X := fun w _ => laidMetH Tryd.prog laid3 w) false (World.doorLaid Tryd.prog 24 os) #[.slice .none 0 0, .int .i64 0, .int .i64 0, .int .i64 0] 8 rfl (World.shaped_of_RefB (by kernel_rfl) (by kernel_rfl)) (by kernel_rfl) (by kernel_rfl) (by kernel_rfl) (door_met os _)) ?_
  intro W base args ds gs before hval0 hW _ _ hL _
  have hval : ∀ (j : Nat) t v, Tryd.f3.params[j]? = some t → args[j]? = some v → Value.okWide Tryd.prog W .any base t v := hval0
  have hW' := hW
  obtain ⟨p, q, hA0, hV, rfl, hfz, hnd⟩ := hW
  have hA : DataW.TrodAll enc Tryd.prog W 0 (fun _ => true) true Tryd.f3.params.toList args.toList ds p := hA0
  rw [Tryd.params3] at hA hval
  obtain ⟨v0, vs0, d0, ds0, p0, q0, hargs, rfl, rfl, h0, r0⟩ := trodAll_cons hA
  obtain ⟨v1, vs1, d1, ds1, p1, q1, rfl, rfl, rfl, h1, r1⟩ := trodAll_cons r0
  obtain ⟨v2, vs2, d2, ds2, p2, q2, rfl, rfl, rfl, h2, r2⟩ := trodAll_cons r1
  obtain ⟨v3, vs3, d3, ds3, p3, q3, rfl, rfl, rfl, h3, r3⟩ := trodAll_cons r2
  obtain ⟨rfl, rfl, rfl⟩ := trodAll_nil r3
  obtain rfl : args = #[v0, v1, v2, v3] := by cases args; simp_all
  obtain ⟨rfl, rfl⟩ := trodVars_none hV
  obtain ⟨a0, len0, cap0, rfl⟩ := okWide_slice Tryd.underlying22 (hval 0 22 v0 rfl rfl)
  have k0 := h0
  have lt0 : ∀ x ∈ p0, x.block < W.heap.size := by obtain ⟨m, hm⟩ := k0; exact DataW.trod_lt m _ _ _ hm
  obtain ⟨l, hR, hmax⟩ : ∃ l, Reads (.slice a0 len0 cap0) len0 l W ∧ len0 ≤ maxLen := by
    obtain ⟨fuel, hf⟩ := h0
    rcases open_ints Tryd.underlying22 Tryd.underlying5 (by kernel_rfl) hf with ⟨hcs, _⟩ | ⟨x, l, c, zs, hcs, _, hl, hm, hz, _, hcell, hwz⟩
    · simp [Value.cells] at hcs
      obtain ⟨rfl, rfl, rfl⟩ := hcs
      exact ⟨[], ⟨.none, 0, rfl, rfl, fun _ => ⟨rfl, rfl⟩, fun ad e => by cases e⟩, by unfold maxLen; omega⟩
    · simp [Value.cells] at hcs
      obtain ⟨rfl, rfl, rfl⟩ := hcs
      obtain ⟨l, hl2⟩ := row_reads hl (by simpa using hz) hcell hwz
      exact ⟨l, hl2, by omega⟩
  obtain ⟨n, rfl, rfl, rfl, wn⟩ := open_int Tryd.underlying3 (hval 1 3 v1 rfl rfl) h1
  obtain ⟨m, rfl, rfl, rfl, wm⟩ := open_int Tryd.underlying3 (hval 2 3 v2 rfl rfl) h2
  obtain ⟨X, rfl, rfl, rfl, wX⟩ := open_int Tryd.underlying3 (hval 3 3 v3 rfl rfl) h3
  clear hA0 hval0
  refine (sorts_any (.slice a0 len0 cap0) len0 l n m X W hR hmax wn wm (laid_low W hL)).mono fun e W' ⟨he, bel⟩ => ?_
  subst he
  exact ⟨_, rfl, _, _, _, [], _, [], hW', trodAll_mk1 (shut_bool Tryd.underlying4 _), (trodAll_cons_mk (Below.trod laidOut (by kernel_rfl) (of_decide_eq_true (by kernel_rfl)) k0 bel lt0) (trodAll_cons_mk (shut_int Tryd.underlying3 wn) (trodAll_cons_mk (shut_int Tryd.underlying3 wm) (trodAll_cons_mk (shut_int Tryd.underlying3 wX) trodAll_mk0)))), rfl, bel.frame _, fun h => by cases h⟩

theorem sorts_holds : Rows.FnAppendPaddedSortsAsNumbersSaid :=
  OpenClaim.holds_of_wide 3 Tryd.f3 rfl rfl rfl rfl rfl rfl rfl ⟨rfl, rfl, rfl, rfl, rfl⟩ rfl rfl rfl rfl rfl (by kernel_rfl) Tryd.func3 (by kernel_rfl)
    (of_decide_eq_true (by kernel_rfl)) (by unfold Func.isWrapper; first | (rw [if_pos (by decide +kernel)]; kernel_rfl) | (rw [if_neg (by decide +kernel)]; exact ⟨rfl, rfl⟩))
    (fun os started H enc _ => sorts_lifted os started H enc)

/-- ████ THE TIED CARD ████ -/
theorem sorts_card : Rows.FnAppendPaddedSortsAsNumbersCardSaid :=
  Claim7.holds_tied_plain_at .later [] [.data, .data, .data] true (true, "865fd91810e8f0359fbe35c56b1e793ebaf496237f855cd0e771379da9ae4510") false
    sorts_holds (fun _ h => by cases h) (by kernel_rfl) (fun _ h => by cases h) fnAppendPaddedSortsAsNumbers_row_tie rfl ⟨rfl, rfl⟩ (by kernel_rfl) rfl
    (fun f fn hf hfn => by
      obtain rfl : f = 3 := Option.some.inj ((show Tryd.prog.funcNamed Rows.fnAppendPaddedSortsAsNumbersRow.func = some 3 by kernel_rfl).symm.trans hf) |>.symm
      obtain rfl : fn = Tryd.f3 := (Option.some.inj (Tryd.func3.symm.trans hfn)).symm
      exact ⟨by kernel_rfl, fun j t ht => by
        rw [Tryd.params3] at ht
        have hm : t ∈ [22, 3, 3, 3] := by simpa using Array.mem_of_getElem? ht
        have hall : ([22, 3, 3, 3].all fun u => !Tryd.prog.wantsStandIn u) = true := by kernel_rfl
        exact (show Tryd.prog.wantsStandIn t = false by simpa using List.all_eq_true.1 hall t hm)⟩)
    (by kernel_rfl)
end Go.Proofs.Qxb6003233aDoor
