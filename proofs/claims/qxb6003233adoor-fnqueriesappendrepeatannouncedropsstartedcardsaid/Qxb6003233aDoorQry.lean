/-
  DERIVED. THE WALK OF (*queries).append (function 23) and of its shim (14).
-/
import Derived.Test.Qxb6003233aDoorSorts
import Derived.Deep.RegionLaw
import Derived.Deep.DeepCutAuto
namespace Go.Proofs.Qxb6003233aDoor
open Go.RowKit

/-- One step of a region that draws: an append whose run is known up to R. -/
theorem step_append_ex {P : Program} {ops : Array Oper} {o : Oper} {a : Act} {w : World} {K : Act → World → Prop} {Q : Exit → Act → World → Prop} {E : Prop} (R : Value → World → Prop) (hgd : o.guard = none) (s x : Operand) (t u : TypeId)
    (ho : o.op = .call { callee := .builtin .append, args := #[s, x], argTypes := #[t, u] }) (sv xv : Value) (hs : a.eval s = sv) (hx : a.eval x = xv)
    (hrun : ∀ ty, ∃ v' w', (Builtin.append_ #[t, u] ty #[sv, xv]).run P w = .ok v' w' ∧ R v' w')
    (h : ∀ v' w', R v' w' → K (a.put o.dst v') w') : if Region.wanted o (yielded ops a.tmps) = true then Oper.wp P o a w K Q else E := by
  have hw : Region.wanted o (yielded ops a.tmps) = true := by simp [Region.wanted, hgd]
  rw [if_pos hw]
  obtain ⟨v', w', hr, h2⟩ := hrun o.type
  unfold Oper.wp execOp
  simp only [ho, resolve, invoke, builtin, Sem.run_bind, Sem.run_pure, Result.andThen_ok, List.map_toArray, List.map_cons, List.map_nil, hs, hx, hr]
  exact h v' w' h2

/-- What an announce says, but for its last word. -/
def body (T : Nat) (hash : Nat → ByteArray) (p : Nat) : List UInt8 :=
  [105, 110, 102, 111, 95, 104, 97, 115, 104, 61] ++ (hash (p % T)).data.toList ++ [38, 112, 101, 101, 114, 95, 105, 100, 61, 45, 84, 76, 48, 48, 48, 49, 45] ++ pad 12 p ++ [38, 112, 111, 114, 116, 61] ++ Lib.itoa ((1024 + p / T % 60000 : Nat) : Int)
    ++ [38, 117, 112, 108, 111, 97, 100, 101, 100, 61, 48, 38, 100, 111, 119, 110, 108, 111, 97, 100, 101, 100, 61, 48, 38, 108, 101, 102, 116, 61] ++ Lib.itoa ((if p / T % 4 = 0 then 0 else 1048576 : Nat) : Int) ++ [38, 99, 111, 109, 112, 97, 99, 116, 61, 49, 38, 110, 117, 109, 119, 97, 110, 116, 61] ++ Lib.itoa 50
/-- The last word, of a run's first announces. -/
def startedTail : List UInt8 := [38, 101, 118, 101, 110, 116, 61, 115, 116, 97, 114, 116, 101, 100]
def qry (P T : Nat) (hash : Nat → ByteArray) (i : Nat) : List UInt8 := body T hash (i % P) ++ (if i < P then startedTail else [])

/-- strconv.AppendInt onto an owned row. -/
theorem appInt_own (B n : Nat) (i : Int) (h0 : 0 ≤ i) (h1 : i ≤ 9223372036854775807) (v : Value) (l : List UInt8) (w : World) (h : w.ownsRow B 5 1 v n (cellsOf l)) (hBw : B ≤ w.heap.size) (hn : n ≤ 1073741824) (hB : 0 < B)
    (htab : Lib.TabIs Tryd.prog w powName .u64 Lib.pow10Tab) :
    Calls Tryd.prog 25 #[v, .int .i64 i, .int .i64 10] w fun e w' => ∃ v', e = .returned v' ∧ After B w (n + (Lib.itoa i).length) (l ++ Lib.itoa i) v' w' := by
  refine (Any.strconv_AppendInt_10 Tryd.laysM176 B n i (by omega) h1 v (cellsOf l) w h hBw (by omega) (fun w' hb => var?_below hb gPow hB htab)).mono ?_
  rintro e w' ⟨v', rfl, ho, hb, hok⟩
  refine ⟨v', rfl, by rw [cellsOf_append]; exact ho, hb, hok, ?_⟩
  rintro rfl
  have hl := ho.1
  rcases ho.2 with ⟨-, h0'⟩ | ⟨g, c, cur, e, -⟩
  · obtain ⟨u, rfl⟩ := Int.eq_ofNat_of_zero_le h0
    have h1 := Lib.nDigits_pos u
    rw [show ((u : Nat) : Int) = Int.ofNat u from rfl] at *
    have h2 : (Lib.itoa (u : Int)).length = Lib.nDigits u := by rw [Lib.itoa_nonneg, Lib.decDigits_length]
    have h3 : n + (Lib.itoa (u : Int)).length = 0 := h0'
    omega
  · cases e

theorem After.then {B n n' : Nat} {w w1 w2 : World} {l l' : List UInt8} {v v' : Value} (h : After B w n l v w1) (h' : After B w1 n' l' v' w2) : After B w n' l' v' w2 :=
  ⟨h'.1, h.2.1.trans h'.2.1, h.2.2.1.trans h'.2.2.1, h'.2.2.2⟩
/-- An append of bytes onto what an append left. -/
theorem After.more {B n : Nat} {w w1 : World} {l : List UInt8} {v : Value} (h : After B w n l v w1) (hBw : B ≤ w.heap.size) (m : Nat) (k : List UInt8) (tx : TypeId) (xv : Value) (src : Src Tryd.prog 1 tx xv m (cellsOf k) w1) (hb : n + m ≤ 1099511627776) (ty : TypeId) :
    ∃ v' w', (Builtin.append_ #[22, tx] ty #[v, xv]).run Tryd.prog w1 = .ok v' w' ∧ After B w (n + m) (l ++ k) v' w' := by
  obtain ⟨v', w', h1, h2⟩ := appd_run B n m v l k w1 (.inl h.1) (by have := h.2.1.size; omega) tx xv src (.inr ⟨h.1, h.2.2.2⟩) hb ty
  exact ⟨v', w', h1, h.then h2⟩
theorem After.drew {B n : Nat} {w w1 : World} {l : List UInt8} {v : Value} (h : After B w n l v w1) : After B w n l v w1.drew := ⟨h.1, h.2.1.drew, fun k o hk h1 h2 => h.2.2.1 k o hk h1 h2, h.2.2.2⟩
theorem After.len {B n : Nat} {w w' : World} {l : List UInt8} {v : Value} (h : After B w n l v w') : l.length = n := by have := h.1.1; rw [cellsOf_length] at this; omega
theorem After.done {B n N : Nat} {w w' : World} {l q L : List UInt8} {v : Value} (h : After B w N L v w') (hl : l.length = n) (e : L = l ++ q) : After B w (n + q.length) (l ++ q) v w' := by
  subst e
  have := h.len
  rw [List.length_append, hl] at this
  rw [this]; exact h
theorem Appd.len {B n : Nat} {v : Value} {l : List UInt8} {w : World} (h : Appd B v n l w) : l.length = n := by
  rcases h with h | ⟨_, _, hl, _⟩
  · have := h.1; rw [cellsOf_length] at this; omega
  · exact hl
theorem pad_len_le (W N : Nat) (h : N < 9223372036854775808) : (pad W N).length ≤ W + 20 := by
  have := Lib.nDigits_le20 N (by omega)
  unfold pad; rw [List.length_append, List.length_replicate, Lib.decDigits_length]; omega

set_option maxHeartbeats 4000000 in
theorem qappend_any (B n qb hb hn P T I : Nat) (hash : Nat → ByteArray) (v : Value) (l : List UInt8) (w : World) (hA : Appd B v n l w) (hBw : B ≤ w.heap.size) (hn1 : n ≤ 1048576) (hP : 1 ≤ P) (hT : 1 ≤ T) (hT2 : T ≤ hn) (hI : I < 9223372036854775808)
    (hqb : qb < B) (hq0 : w.cell? ⟨qb, 0, none⟩ = some (.int .i64 P)) (hq1 : w.cell? ⟨qb, 1, none⟩ = some (.int .i64 T)) (hq2 : w.cell? ⟨qb, 2, none⟩ = some (.slice (some ⟨hb, 0, none⟩) hn hn)) (hhb : hb < B) (hh : ∀ j, j < hn → w.cell? ⟨hb, j, none⟩ = some (.string (hash j))) (hsz : ∀ j, j < hn → (hash j).size ≤ 1048576)
    (htab : Lib.TabIs Tryd.prog w powName .u64 Lib.pow10Tab) :
    Calls Tryd.prog 23 #[.pointer (some ⟨qb, 0, none⟩), v, .int .i64 I] w fun e w' => ∃ v', e = .returned v' ∧ After B w (n + (qry P T hash I).length) (l ++ qry P T hash I) v' w' := by
  have hrun1 := fun ty => appd_run B n 10 v l [105, 110, 102, 111, 95, 104, 97, 115, 104, 61] w hA hBw 9 _ (Src.ofString w Tryd.underlying9 ⟨#[105, 110, 102, 111, 95, 104, 97, 115, 104, 61]⟩) (.inl (by omega)) (by omega) ty
  obtain ⟨p, hp⟩ : ∃ p, I % P = p := ⟨_, rfl⟩
  obtain ⟨k, hk⟩ : ∃ k, p / T = k := ⟨_, rfl⟩
  obtain ⟨r, hr⟩ : ∃ r, p % T = r := ⟨_, rfl⟩
  obtain ⟨left, hleft⟩ : ∃ left : Nat, (if k % 4 = 0 then 0 else 1048576) = left := ⟨_, rfl⟩
  have hIp : (I : Int) % (P : Int) = (p : Int) := by rw [← hp]; rfl
  have hpk : (p : Int) / (T : Int) = (k : Int) := by rw [← hk]; rfl
  have hpk2 : (p : Int).tdiv (T : Int) = (k : Int) := by rw [← hk]; rfl
  have hpr : (p : Int) % (T : Int) = (r : Int) := by rw [← hr]; rfl
  have hpr2 : (p : Int).tmod (T : Int) = (r : Int) := by rw [← hr]; rfl
  have hT0 : ¬ T = 0 := by omega
  have hrn : r < hn := by have : r < T := by rw [← hr]; exact Nat.mod_lt _ (by omega)
                          omega
  have hpI : p ≤ I := by rw [← hp]; exact Nat.mod_le _ _
  have hkp : k ≤ p := by rw [← hk]; exact Nat.div_le_self _ _
  have hrT : r < T := by rw [← hr]; exact Nat.mod_lt _ (by omega)
  have HQ : Hid (qry P T hash I = [105, 110, 102, 111, 95, 104, 97, 115, 104, 61] ++ (hash r).data.toList ++ [38, 112, 101, 101, 114, 95, 105, 100, 61, 45, 84, 76, 48, 48, 48, 49, 45] ++ pad 12 p ++ [38, 112, 111, 114, 116, 61] ++ Lib.itoa ((1024 + k % 60000 : Nat) : Int)
    ++ [38, 117, 112, 108, 111, 97, 100, 101, 100, 61, 48, 38, 100, 111, 119, 110, 108, 111, 97, 100, 101, 100, 61, 48, 38, 108, 101, 102, 116, 61] ++ Lib.itoa (left : Int) ++ [38, 99, 111, 109, 112, 97, 99, 116, 61, 49, 38, 110, 117, 109, 119, 97, 110, 116, 61] ++ Lib.itoa 50 ++ (if I < P then startedTail else [])) := by
    unfold qry body; rw [hp, hk, hr, hleft]; exact rfl
  have Hleft : Hid ((if k % 4 = 0 then 0 else 1048576) = left) := hleft
  have Hh : Hid (∀ j, j < hn → w.cell? ⟨hb, j, none⟩ = some (.string (hash j))) := hh
  have Hl : Hid (l.length = n) := hA.len
  clear hp hk hr hleft hh hA
  go_enter Tryd.func23, Tryd.ntmps23
  go_upto_if 26 with fail
  go_cut [7, 9] (fun a d wx => a = .int .i64 (p : Int) ∧ d = .int .i64 (left : Int) ∧ w = wx)
  case first =>
    by_cases h4 : k % 4 = 0
    · have h4' : (k : Int) % 4 = 0 := by omega
      go_wp2
      go_meet
      have := Hleft.out; rw [if_pos h4] at this; subst this
      exact ⟨by rw [hIp], rfl, rfl⟩
    · have h4' : ¬ ((k : Int) % 4 = 0) := by omega
      go_wp2
      go_meet
      have := Hleft.out; rw [if_neg h4] at this; subst this
      exact ⟨by rw [hIp], rfl, rfl⟩
  case rest =>
    obtain ⟨rfl, rfl, rfl⟩ := hcut
    go_wp2_with (at_builtin; refine wpList_append_ex _ rfl _ _ 22 9 rfl _ _ rfl rfl hrun1 ?_; rintro v1 w1 hA1; refine Hid.out ?_)
    clear hrun1
    have hw1q1 : w1.cell? ⟨qb, 1, none⟩ = some (.int .i64 T) := by rw [hA1.2.1.cell hqb]; exact hq1
    have hw1q2 : w1.cell? ⟨qb, 2, none⟩ = some (.slice (some ⟨hb, 0, none⟩) hn hn) := by rw [hA1.2.1.cell hqb]; exact hq2
    have hw1h : w1.cell? ⟨hb, r, none⟩ = some (.string (hash r)) := by rw [hA1.2.1.cell hhb]; exact Hh.out r (by omega)
    have hszr := hsz r (by omega)
    have hrun2 := fun ty => hA1.drew.more hBw (hash r).size (hash r).data.toList 9 _ (Src.ofString w1.drew Tryd.underlying9 (hash r)) (by omega) ty
    refine Lib.hid ?_
    go_upto_region 7 with fail
    go_cut [1] (fun d wx => After B w (n + 10 + (hash r).size) (l ++ [105, 110, 102, 111, 95, 104, 97, 115, 104, 61] ++ (hash r).data.toList) d wx)
    case first =>
      go_region_law (refine step_append_ex _ rfl (.tmp 29) (.tmp 42) 22 9 rfl _ _ rfl rfl hrun2 ?_; rintro v2 w2 hA2)
      all_goals (go_wp2_with fail; go_meet; exact hA2)
    case rest =>
      clear hA1 hrun2 hw1q1 hw1q2 hw1h
      have hB0 : 0 < B := by omega
      have hpad := pad_len_le 12 p (by omega)
      have hit1 := Lib.itoa_length_le (1024 + (k : Int) % 60000) (by omega) (by omega)
      have hit2 := Lib.itoa_length_le (left : Int) (by omega) (by have := Hleft.out; split at this <;> omega)
      have hit3 := Lib.itoa_length_le 50 (by omega) (by omega)
      have hleft9 : left ≤ 1048576 := by have := Hleft.out; split at this <;> omega
      have hrun3 := fun ty => hcut.more hBw 17 [38, 112, 101, 101, 114, 95, 105, 100, 61, 45, 84, 76, 48, 48, 48, 49, 45] 9 _ (Src.ofString wc Tryd.underlying9 ⟨#[38, 112, 101, 101, 114, 95, 105, 100, 61, 45, 84, 76, 48, 48, 48, 49, 45]⟩) (by omega) ty
      clear hcut
      refine Lib.hid ?_
      go_wp2_with (at_builtin; refine wpList_append_ex _ rfl _ _ 22 9 rfl _ _ rfl rfl hrun3 ?_; rintro v3 w3 hA3; refine Hid.out ?_)
      clear hrun3
      have hsz4 : B ≤ w3.heap.size := by have := hA3.2.1.size; omega
      have htab4 : Lib.TabIs Tryd.prog w3 powName .u64 Lib.pow10Tab := var?_below hA3.2.1 gPow hB0 htab
      have k4 := appendPadded_any B _ 12 p v3 _ w3 (.inl hA3.1) hsz4 (by omega) (by omega) (by omega) htab4
      have H4 := Lib.hid hA3
      clear hA3 hsz4 htab4
      refine Lib.hid ?_
      go_wp2_with (go_at_call 22; refine k4.mono ?_; rintro e w4 ⟨v4, rfl, hB4⟩; refine Hid.out ?_)
      have hA4 := H4.out.then hB4
      clear k4 H4 hB4
      have hrun5 := fun ty => hA4.more hBw 6 [38, 112, 111, 114, 116, 61] 9 _ (Src.ofString w4 Tryd.underlying9 ⟨#[38, 112, 111, 114, 116, 61]⟩) (by omega) ty
      clear hA4
      refine Lib.hid ?_
      go_wp2_with (at_builtin; refine wpList_append_ex _ rfl _ _ 22 9 rfl _ _ rfl rfl hrun5 ?_; rintro v5 w5 hA5; refine Hid.out ?_)
      clear hrun5
      have hsz6 : B ≤ w5.heap.size := by have := hA5.2.1.size; omega
      have htab6 : Lib.TabIs Tryd.prog w5 powName .u64 Lib.pow10Tab := var?_below hA5.2.1 gPow hB0 htab
      have k6 := appInt_own B _ (1024 + (k : Int) % 60000) (by omega) (by omega) v5 _ w5 hA5.1 hsz6 (by omega) hB0 htab6
      have H6 := Lib.hid hA5
      clear hA5 hsz6 htab6
      refine Lib.hid ?_
      go_wp2_with (go_at_call 25; refine k6.mono ?_; rintro e w6 ⟨v6, rfl, hB6⟩; refine Hid.out ?_)
      have hA6 := H6.out.then hB6
      clear k6 H6 hB6
      have hrun7 := fun ty => hA6.more hBw 30 [38, 117, 112, 108, 111, 97, 100, 101, 100, 61, 48, 38, 100, 111, 119, 110, 108, 111, 97, 100, 101, 100, 61, 48, 38, 108, 101, 102, 116, 61] 9 _ (Src.ofString w6 Tryd.underlying9 ⟨#[38, 117, 112, 108, 111, 97, 100, 101, 100, 61, 48, 38, 100, 111, 119, 110, 108, 111, 97, 100, 101, 100, 61, 48, 38, 108, 101, 102, 116, 61]⟩) (by omega) ty
      clear hA6
      refine Lib.hid ?_
      go_wp2_with (at_builtin; refine wpList_append_ex _ rfl _ _ 22 9 rfl _ _ rfl rfl hrun7 ?_; rintro v7 w7 hA7; refine Hid.out ?_)
      clear hrun7
      have hsz8 : B ≤ w7.heap.size := by have := hA7.2.1.size; omega
      have htab8 : Lib.TabIs Tryd.prog w7 powName .u64 Lib.pow10Tab := var?_below hA7.2.1 gPow hB0 htab
      have k8 := appInt_own B _ (left : Int) (by omega) (by omega) v7 _ w7 hA7.1 hsz8 (by omega) hB0 htab8
      have H8 := Lib.hid hA7
      clear hA7 hsz8 htab8
      refine Lib.hid ?_
      go_wp2_with (go_at_call 25; refine k8.mono ?_; rintro e w8 ⟨v8, rfl, hB8⟩; refine Hid.out ?_)
      have hA8 := H8.out.then hB8
      clear k8 H8 hB8
      have hrun9 := fun ty => hA8.more hBw 19 [38, 99, 111, 109, 112, 97, 99, 116, 61, 49, 38, 110, 117, 109, 119, 97, 110, 116, 61] 9 _ (Src.ofString w8 Tryd.underlying9 ⟨#[38, 99, 111, 109, 112, 97, 99, 116, 61, 49, 38, 110, 117, 109, 119, 97, 110, 116, 61]⟩) (by omega) ty
      clear hA8
      refine Lib.hid ?_
      go_wp2_with (at_builtin; refine wpList_append_ex _ rfl _ _ 22 9 rfl _ _ rfl rfl hrun9 ?_; rintro v9 w9 hA9; refine Hid.out ?_)
      clear hrun9
      have hsz10 : B ≤ w9.heap.size := by have := hA9.2.1.size; omega
      have htab10 : Lib.TabIs Tryd.prog w9 powName .u64 Lib.pow10Tab := var?_below hA9.2.1 gPow hB0 htab
      have k10 := appInt_own B _ 50 (by omega) (by omega) v9 _ w9 hA9.1 hsz10 (by omega) hB0 htab10
      have H10 := Lib.hid hA9
      clear hA9 hsz10 htab10
      refine Lib.hid ?_
      go_wp2_with (go_at_call 25; refine k10.mono ?_; rintro e w10 ⟨v10, rfl, hB10⟩; refine Hid.out ?_)
      have hA10 := H10.out.then hB10
      clear k10 H10 hB10
      have hw10 : w10.cell? ⟨qb, 0, none⟩ = some (.int .i64 P) := by rw [hA10.2.1.cell hqb]; exact hq0
      have H10 := Lib.hid hA10
      by_cases hIP : I < P
      · have hIP' : (I : Int) < (P : Int) := by omega
        have hrun11 := fun ty => hA10.more hBw 14 [38, 101, 118, 101, 110, 116, 61, 115, 116, 97, 114, 116, 101, 100] 9 _ (Src.ofString w10 Tryd.underlying9 ⟨#[38, 101, 118, 101, 110, 116, 61, 115, 116, 97, 114, 116, 101, 100]⟩) (by omega) ty
        clear hA10
        refine Lib.hid ?_
        go_wp2_with (at_builtin; refine wpList_append_ex _ rfl _ _ 22 9 rfl _ _ rfl rfl hrun11 ?_; rintro v11 w11 hA11; refine Hid.out ?_)
        have H11 := Lib.hid hA11
        clear hrun11 hA11
        refine Lib.hid ?_
        go_wp2
        go_ret
        refine ⟨_, rfl, H11.out.done Hl.out ?_⟩
        rw [HQ.out, if_pos hIP]
        simp only [startedTail, List.append_assoc]
        rfl
      · have hIP' : ¬ (I : Int) < (P : Int) := by omega
        clear hA10
        refine Lib.hid ?_
        go_wp2
        go_ret
        refine ⟨_, rfl, H10.out.done Hl.out ?_⟩
        rw [HQ.out, if_neg hIP]
        simp only [List.append_assoc, List.append_nil]
        rfl
end Go.Proofs.Qxb6003233aDoor
