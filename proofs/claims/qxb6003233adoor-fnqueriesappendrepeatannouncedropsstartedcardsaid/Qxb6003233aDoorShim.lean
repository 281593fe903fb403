/-
  DERIVED. THE WALKS of ZZQueriesAppend (14) and of zzBytes (20).
-/
import Derived.Test.Qxb6003233aDoorStr
import Derived.Test.Qxb6003233aDoorLaid
namespace Go.Proofs.Qxb6003233aDoor
open Go.RowKit

theorem StrRow.old {g m k : Nat} {hash : Nat → ByteArray} {w w' : World} (h : StrRow g m k hash w) (hb : Below w.heap.size w w') : StrRow g m k hash w' := by
  have hlt := h.lt
  obtain ⟨arr, hg, r⟩ := h
  exact ⟨arr, by rw [hb.block g hlt]; exact hg, r⟩

theorem zzQ_any (b hb m n P T I : Nat) (hash : Nat → ByteArray) (v : Value) (l : List UInt8) (w : World) (hC : Clone b v n l w) (hb1 : b ≤ w.heap.size) (hS : StrRow hb m m hash w) (hn : n ≤ 1048576) (hP : 1 ≤ P) (hT : 1 ≤ T) (hTm : T ≤ m) (hI : I < 9223372036854775808) (hsz : ∀ j, j < m → (hash j).size ≤ 1048576) (hL : Laid w) :
    Calls Tryd.prog 14 #[.int .i64 P, .int .i64 T, .slice (some ⟨hb, 0, none⟩) m m, v, .int .i64 I] w fun e w' => ∃ v', e = .returned v' ∧ w'.ownsRow w.heap.size 5 1 v' (n + (qry P T hash I).length) (cellsOf (l ++ qry P T hash I)) ∧ v' ≠ .slice none 0 0 ∧ Below w.heap.size w w' := by
  have hb0 : Below w.heap.size w (w.alloc (.cells #[.int .i64 P, .int .i64 T, .slice (some ⟨hb, 0, none⟩) m m] 48)) := (Below.refl _ _).alloc (Nat.le_refl _) _
  have hC' := hC.old hb0
  have hS' := hS.old hb0
  have hlt := hS.lt
  have k23 := qappend_any (w.heap.size + 1) n w.heap.size hb m P T I hash v l _ (hC'.full (by omega)) (by simp) hn hP hT hTm hI (by omega) (by simp [go_sem]) (by simp [go_sem]) (by simp [go_sem]) (by omega) (fun j hj => hS'.cell j hj) hsz (hL.below hb0 hL.2).1
  clear hC hC' hS hS' hL
  go_enter Tryd.func14, Tryd.ntmps14
  go_wp2_with (go_at_call 23; refine k23.mono ?_; rintro e w1 ⟨v', rfl, hA⟩)
  go_ret
  exact ⟨_, rfl, ownsRow_base hA.1 (by omega), hA.2.2.2, hb0.trans (hA.2.1.mono (by omega))⟩

/-- A slice of strings that came in. -/
def SReads (base : Option Addr) (m : Nat) (hash : Nat → ByteArray) (w : World) : Prop :=
  (base = none → m = 0) ∧ ∀ x, base = some x → (0 < m → x.block < w.heap.size) ∧ ∀ j, j < m → w.cell? (x.add j) = some (.string (hash j))

/-- It returns a bool; where that is true the strings are short. -/
def IsBool (m : Nat) (hash : Nat → ByteArray) (e : Ending) : Prop := ∃ b, e = .returned (.bool b) ∧ (b = true → ∀ j, j < m → (hash j).size ≤ 1048576)

theorem zzBytes_any (P T I : Int) (base : Option Addr) (m c : Nat) (hash : Nat → ByteArray) (a : Option Addr) (len cap : Nat) (w : World) (hS : SReads base m hash w) (hm : m ≤ maxLen) (hlen : len ≤ maxLen) :
    Calls Tryd.prog 20 #[.int .i64 P, .int .i64 T, .slice base m c, .slice a len cap, .int .i64 I] w fun e w' => IsBool m hash e ∧ w = w' := by
  unfold maxLen at hm hlen
  have HS := Lib.hid hS
  clear hS
  by_cases h1 : 1048576 < m
  · have h1' : (1048576 : Int) < (m : Int) := by omega
    go_enter Tryd.func20, Tryd.ntmps20
    go_wp2
    go_ret
    exact ⟨⟨_, rfl, fun e => by cases e⟩, rfl⟩
  have h1' : ¬ (1048576 : Int) < (m : Int) := by omega
  go_enter Tryd.func20, Tryd.ntmps20
  go_wp2
  go_loop [11, 12] (fun z i => ∃ k t : Nat, k ≤ m ∧ i = .int .i64 k ∧ z = .int .i64 t ∧ t ≤ 1048576 ∧ ∀ j, j < k → (hash j).size ≤ 1048576) (fun _ i => m - (intOf i).toNat)
  case atStart => exact ⟨0, m, Nat.zero_le _, rfl, rfl, by omega, fun j hj => absurd hj (by omega)⟩
  case round =>
    obtain ⟨k, t, hk, rfl, rfl, ht, hall⟩ := hrel
    have Hall := Lib.hid hall
    clear hall
    by_cases hlt : k < m
    · have hlt' : (k : Int) < (m : Int) := by omega
      obtain ⟨x, rfl⟩ : ∃ x, base = some x := by
        cases base with
        | none => have := HS.out.1 rfl; omega
        | some x => exact ⟨x, rfl⟩
      have hd := (HS.out.2 x rfl).2 k hlt
      by_cases h2 : 1048576 < (hash k).size
      · have h2' : (1048576 : Int) < ((hash k).size : Int) := by omega
        go_wp2
        go_ret
        exact ⟨⟨_, rfl, fun e => by cases e⟩, rfl⟩
      have h2' : ¬ (1048576 : Int) < ((hash k).size : Int) := by omega
      by_cases h3 : 1048576 < t + (hash k).size
      · have h3' : (1048576 : Int) < (t : Int) + ((hash k).size : Int) := by omega
        go_wp2
        go_ret
        exact ⟨⟨_, rfl, fun e => by cases e⟩, rfl⟩
      have h3' : ¬ (1048576 : Int) < (t : Int) + ((hash k).size : Int) := by omega
      go_wp2
      go_round
      case rel => exact ⟨k + 1, t + (hash k).size, by omega, by go_num, by go_num, by omega, fun j hj => by
        by_cases e : j = k
        · subst e; omega
        · exact Hall.out j (by omega)⟩
      case measure => simp [intOf]; omega
    · obtain rfl : k = m := by omega
      have hge : ¬ ((k : Int) < (k : Int)) := by omega
      by_cases h4 : 1048576 < len
      · have h4' : (1048576 : Int) < (len : Int) := by omega
        go_wp2
        go_ret
        exact ⟨⟨_, rfl, fun e => by cases e⟩, rfl⟩
      have h4' : ¬ (1048576 : Int) < (len : Int) := by omega
      by_cases h5 : 1048576 < t + len
      · have h5' : (1048576 : Int) < (t : Int) + (len : Int) := by omega
        go_wp2
        go_ret
        exact ⟨⟨_, rfl, fun e => by cases e⟩, rfl⟩
      have h5' : ¬ (1048576 : Int) < (t : Int) + (len : Int) := by omega
      go_wp2
      go_ret
      exact ⟨⟨_, rfl, fun _ => Hall.out⟩, rfl⟩
end Go.Proofs.Qxb6003233aDoor
