/-
  clientIndex.set: the map at a field takes an entry, the room grows.
-/
import Derived.Test.Qxb6613550aThree
import Derived.Maps.OwnSet
import Derived.Deep.RegionHeldLaw
import Derived.Deep.CutRange
namespace Go.Proofs.Qxb6613550a
open Go.RowKit Go.Maps
set_option linter.unusedVariables false

theorem keyed23 : Keyed Try.prog 23 := int_keyed Try.underlying23
/-- A map from uint64 to uint64. -/
abbrev OwnM (w : World) (M n : Nat) (D : DataW Unit) : Prop := w.ownsMap Try.prog 23 (plainElem Try.prog 23) M n D

structure Kp2 (B S M : Nat) (w w' : World) : Prop where
  bel : Below B w w'
  oth : ∀ k, k < w.heap.size → k ≠ S → k ≠ M → w'.heap[k]? = w.heap[k]?

theorem step_len_by {P : Program} {ops : Array Oper} {o : Oper} {a : Act} {w : World} {K : Act → World → Prop} {Q : Exit → Act → World → Prop} {E : Prop}
    (hg : o.guard = none) (s : Operand) (t : TypeId) (hop : o.op = Op.call { callee := Callee.builtin Builtin.len, args := #[s], argTypes := #[t] })
    (vs : Value) (hs : a.eval s = vs) {v' : Value} {w' : World} (hr : (Builtin.len_ #[t] o.type #[vs]).run P w = .ok v' w') (hK : K (a.put o.dst v') w') :
    if Region.wanted o (yielded ops a.tmps) = true then Oper.wp P o a w K Q else E := by
  have hw : Region.wanted o (yielded ops a.tmps) = true := by simp [Region.wanted, hg]
  rw [if_pos hw]
  unfold Oper.wp
  simp [execOp, hop, resolve, invoke, builtin, hs, hr, Result.andThen]
  exact hK

set_option maxHeartbeats 1600000 in
set_option maxRecDepth 100000 in
theorem cset_any (B S j M n : Nat) (cur : Array Value) (c u r : Int) (D : DataW Unit) (w : World) (hS : w.heap[S]? = some (.cells cur 36 (0, 0))) (h0 : cur[j]? = some (.map (some M))) (h1 : cur[j + 1]? = some (.int .i64 r)) (hown : OwnM w M n D) (hn : n ≤ 100000) (wc : (Lit.int .u64 c).wf = true) (wu : (Lit.int .u64 u).wf = true) (hBS : B ≤ S) (hBM : B ≤ M) (hr0 : 0 ≤ r) (hr1 : r ≤ 200000) :
    Calls Try.prog 31 #[.pointer (some ⟨S, j, none⟩), .int .u64 c, .int .u64 u] w fun e w' => e = .returned (.tuple #[]) ∧ ∃ r', 0 ≤ r' ∧ r' ≤ max r (n + 1) ∧ w'.heap[S]? = some (.cells (cur.setIfInBounds (j + 1) (.int .i64 r')) 36 (0, 0)) ∧ OwnM w' M (n + 1) (D.put (.int .u64 c) (.lit (.int .u64 u))) ∧ Kp2 B S M w w' := by
  have hSM : S ≠ M := by
    intro e; subst e
    obtain ⟨es, clock, hb, _⟩ := hown
    rw [hS] at hb; cases hb
  have s0 : w.cell? ⟨S, j, none⟩ = some (.map (some M)) := by rw [cell_of_row w S j cur 36 (0, 0) hS]; exact h0
  have HALL : Hid (w.heap[S]? = some (.cells cur 36 (0, 0)) ∧ cur[j]? = some (.map (some M)) ∧ cur[j + 1]? = some (.int .i64 r)) := ⟨hS, h0, h1⟩
  have ltS := heap_lt hS
  obtain ⟨w1, hrun, hown1, hgrow1⟩ := hown.update keyed23 Try.underlying32 (show n < maxLen by unfold maxLen; omega) (keyOf_int_mk Try.underlying23 wc) (plainElem_int Try.underlying23 wu)
  have hS1 : w1.heap[S]? = some (.cells cur 36 (0, 0)) := by rw [hgrow1.block S ltS (by simpa using hSM)]; exact hS
  have t0 : w1.cell? ⟨S, j, none⟩ = some (.map (some M)) := by rw [cell_of_row w1 S j cur 36 (0, 0) hS1]; exact h0
  have t1 : w1.cell? ⟨S, j + 1, none⟩ = some (.int .i64 r) := by rw [cell_of_row w1 S (j + 1) cur 36 (0, 0) hS1]; exact h1
  have f1 : w1.frozen? ⟨S, j + 1, none⟩ = false := by simp [World.frozen?, hS1]
  have hlen := fun ty => hown1.drew.len Try.underlying32 ty
  have HLEN := (show Hid _ from hlen)
  have hle := hown1.size_le
  obtain ⟨z, hz⟩ : ∃ z : Nat, z = Maps.size (D.put (.int .u64 c) (.lit (.int .u64 u))) := ⟨_, rfl⟩
  rw [← hz] at HLEN hle
  have HOWN : Hid (OwnM w1 M (n + 1) (D.put (.int .u64 c) (.lit (.int .u64 u))) ∧ w.grownBy w1 (some M) ∧ w1.heap[S]? = some (.cells cur 36 (0, 0))) := ⟨hown1, hgrow1, hS1⟩
  have FIN : Hid (∀ v : Value, Below B w (w1.setCell ⟨S, j + 1, none⟩ v).drew ∧ ∀ k, k < w.heap.size → k ≠ S → k ≠ M → (w1.setCell ⟨S, j + 1, none⟩ v).drew.heap[k]? = w.heap[k]?) := fun v =>
    ⟨(((Below.refl B w).grown hgrow1 (by omega) (fun k e => by cases e; exact hBM)).setCell (p := ⟨S, j + 1, none⟩) hBS v).drew, fun k hk h1 h2 => by
      show (w1.setCell ⟨S, j + 1, none⟩ v).heap[k]? = _
      rw [heap_setCell_not v h1]; exact hgrow1.block k hk (by simpa using h2)⟩
  clear hS h0 h1 hown hown1 hgrow1 hz hS1 hlen
  go_enter Try.func31, Try.ntmps31
  go_upto_region 1 with fail
  apply wp_region_one
  case h =>
    go_region_law (refine step_len_by rfl (.tmp 20) 32 rfl (.map (some M)) (by simp [go_sem]) (HLEN.out 3) ?_)
    all_goals exact ⟨rfl, rfl⟩
  case k =>
    go_wp2_with fail
    · go_end0
      exact ⟨rfl, (z : Int), by omega, by omega, heap_setCell_at _ HOWN.out.2.2, (HOWN.out.1.setCell (a := ⟨S, j + 1, none⟩) hSM.symm _).drew, (FIN.out _).1, (FIN.out _).2⟩
    · go_end0
      exact ⟨rfl, r, by omega, by omega, heap_setCell_at _ HOWN.out.2.2, (HOWN.out.1.setCell (a := ⟨S, j + 1, none⟩) hSM.symm _).drew, (FIN.out _).1, (FIN.out _).2⟩
end Go.Proofs.Qxb6613550a
