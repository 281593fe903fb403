/-
  DERIVED. APPENDS, of no one function: onto a slice that is full (a new row; all old memory stands); onto a row with room whose block bears whatever tag; the step of the walk that takes such a run.
-/
import Derived.Test.Qxb6003233aDoorRows
import Derived.WalkKit
import Derived.WalkSpells
import Derived.WalkLawsBesides
import Derived.Deep.AppendSrc
import Derived.Lib.AppendStr
import Derived.Lib.Hide
namespace Go.Proofs.Qxb6003233aDoor
open Go.RowKit

theorem info5 : (Tryd.prog.info? 5).map (fun i => (i.zero, i.size, i.bytes)) = some (some (.int .u8 0), 1, 1) := by kernel_rfl

/-- The walk's step at an append whose run is known up to R. -/
theorem wpList_append_ex {P : Program} {w : World} {ops : Array Oper} {rest : List Oper} {o : Oper} {a : Act} {Q : Exit → Act → World → Prop} (R : Value → World → Prop) (hgd : o.guard = none) (s x : Operand) (t u : TypeId)
    (ho : o.op = .call { callee := .builtin .append, args := #[s, x], argTypes := #[t, u] }) (sv xv : Value) (hs : a.eval s = sv) (hx : a.eval x = xv)
    (hrun : ∀ ty, ∃ v' w', (Builtin.append_ #[t, u] ty #[sv, xv]).run P w = .ok v' w' ∧ R v' w')
    (h : ∀ v' w', R v' w' → wpList P ops Q rest (a.put o.dst v') w') : wpList P ops Q (o :: rest) a w := by
  refine wpList_plain hgd fun K hK => ?_
  obtain ⟨v', w', hr, h2⟩ := hrun o.type
  unfold Oper.wp execOp
  simp only [ho, resolve, invoke, builtin, Sem.run_bind, Sem.run_pure, Result.andThen_ok, List.map_toArray, List.map_cons, List.map_nil, hs, hx, hr]
  exact hK _ _ (h v' w' h2)

/-- Onto a full slice: a new row. -/
theorem full_append (base : Option Addr) (n m : Nat) (olds news : List Value) (tx : TypeId) (xv : Value) (w : World) (hlo : olds.length = n) (hnil : base = none → n = 0)
    (hold : ∀ ad, base = some ad → ∀ j u, olds[j]? = some u → w.cell? (ad.add j) = some u) (src : Src Tryd.prog 1 tx xv m news w) (hm : 0 < m) (hb : n + m ≤ 1099511627776) (ty : TypeId) :
    ∃ v' w', (Builtin.append_ #[22, tx] ty #[.slice base n n, xv]).run Tryd.prog w = .ok v' w' ∧
      (w'.ownsRow w.heap.size 5 1 v' (n + m) (olds ++ news) ∧ w.grownBy w' none ∧ ∃ cap, v' = .slice (some ⟨w.heap.size, 0, none⟩) (n + m) cap) := by
  obtain ⟨i, hi, hz, hs, hby⟩ := info_parts info5
  have hfc : (Builtin.firstCells i.size n (.slice base n n)).run Tryd.prog w.drew = .ok olds.toArray w.drew := by
    cases base with
    | none =>
      obtain rfl := hnil rfl
      obtain rfl : olds = [] := List.eq_nil_of_length_eq_zero hlo
      exact run_firstCells_none w.drew i.size 0 0 0
    | some ad => exact run_firstCells_some w.drew i.size n ad n n olds (by rw [hs, hlo]; omega) (by simpa using hold ad rfl)
  have hr := run_append_grow_src (P := Tryd.prog) w 22 tx ty 5 i (.int .u8 0) Tryd.underlying22 hi hz base n n olds hfc xv m news (by rw [hs]; exact src) (by omega) (by omega) (by rw [hby]; exact growslice_fits (by omega) (by omega))
  have hge := grownCap_ge w (n + m) n 5
  have hcm : grownCap w (n + m) n 5 ≤ maxLen := grownCap_le_maxLen w (n + m) n 5 (by unfold maxLen; omega)
  have hnl : news.length = m := by have := src.newsLen; omega
  have hlen : (olds ++ news).length = (n + m) * 1 := by rw [List.length_append, hlo, hnl]; omega
  refine ⟨_, _, hr, ⟨hlen, .inr ⟨w.heap.size, _, _, rfl, Nat.le_refl _, heap_alloc_new w.drew _, hge, hcm, ?_, ?_⟩⟩, ⟨rfl, rfl, rfl, by simp, fun k hk _ => heap_alloc_old w.drew _ hk⟩, _, rfl⟩
  · have hz1 : (Value.int IntKind.u8 0).cells.size = 1 := rfl
    simp only [Array.size_append, List.size_toArray, size_zeroCells, hz1, List.length_append, hlo, hnl]
    omega
  · simp only [Array.toList_append]
    rw [← hlen]
    exact List.take_left

/-- Onto a row with room: in its own block, whatever tag that bears. -/
theorem room_append (g n m cap : Nat) (cur : Array Value) (tt : TypeId) (news : List Value) (tx : TypeId) (xv : Value) (w : World) (hg : w.heap[g]? = some (.cells cur tt (0, 0))) (src : Src Tryd.prog 1 tx xv m news w)
    (hroom : n + m ≤ cap) (hfit : n + m ≤ cur.size) (ty : TypeId) :
    (Builtin.append_ #[22, tx] ty #[.slice (some ⟨g, 0, none⟩) n cap, xv]).run Tryd.prog w = .ok (.slice (some ⟨g, 0, none⟩) (n + m) cap) (w.setRow g (cur.toList.take n ++ news ++ cur.toList.drop (n + m)).toArray) := by
  obtain ⟨i, hi, hz, hs, hby⟩ := info_parts info5
  have hnl : news.length = m := by have := src.newsLen; omega
  have hst := run_storeCells_at Tryd.prog g n tt news 0 cur w hg (by omega) src.one
  have hc := src.cells
  have hl := src.len
  rw [hnl] at hst
  simp only [Nat.add_zero] at hst
  rcases src.kind with ⟨e', hk⟩ | hk <;> simp [Builtin.append_, run_underlying Tryd.underlying22, run_underlying hk, sizeOf, typeInfo, hi, hl, hroom, hc, Addr.add_lit, hs, hst]
end Go.Proofs.Qxb6003233aDoor
