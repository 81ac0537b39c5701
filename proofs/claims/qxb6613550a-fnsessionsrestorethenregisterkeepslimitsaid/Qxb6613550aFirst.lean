/-
  Map.First, Map.Len, Sessions.Len.
-/
import Derived.Test.Qxb6613550aDelete
import Derived.Deep.RegionHeldLaw
import Derived.Deep.CutRange
namespace Go.Proofs.Qxb6613550a
open Go.RowKit
set_option linter.unusedVariables false

theorem mapLen_any (S : Nat) (n : Int) (w : World) (h1 : w.cell? ⟨S, 1, none⟩ = some (.int .i64 n)) :
    Calls Try.prog 18 #[.pointer (some ⟨S, 0, none⟩)] w fun e w' => e = .returned (.int .i64 n) ∧ w' = w := by
  go_enter Try.func18, Try.ntmps18
  go_wp2
  go_ret
  exact ⟨rfl, rfl⟩

theorem sesLen_any (S : Nat) (n : Int) (w : World) (h1 : w.cell? ⟨S, 10, none⟩ = some (.int .i64 n)) :
    Calls Try.prog 10 #[.pointer (some ⟨S, 0, none⟩)] w fun e w' => e = .returned (.int .i64 n) ∧ w' = w := by
  go_enter Try.func10, Try.ntmps10
  go_wp2
  go_ret
  exact ⟨rfl, rfl⟩

/-- The results: a slot, a struct's cells, a slot. -/
theorem results_triple {P : Program} {fn : Func} {t p u : Tmp} {ty : TypeId} (h : fn.results = #[.tmp t, .cell p ty, .tmp u]) (tmps : Array Value) (w : World) (g : Nat) (tt : TypeId) (cs : Array Value) (fr : Nat × Nat) (d : TypeDesc)
    (hp : tmps.getD p undef = .pointer (some ⟨g, 0, none⟩)) (hg : w.heap[g]? = some (.cells cs tt fr)) (hu : P.underlying ty = some d) (hd : (match d with | .struct _ | .array _ _ => true | _ => false) = true) (hi : (P.info? ty).map (·.size) = some cs.size) :
    (results fn tmps).run P w = .ok (.tuple #[tmps.getD t undef, .agg cs, tmps.getD u undef]) w := by
  have h1 : (results fn tmps).run P w = ((asAddr (tmps.getD p undef)).run P w).andThen fun a w₁ => ((loadVar ty a).run P w₁).andThen fun v w₂ => .ok (.tuple #[tmps.getD t undef, v, tmps.getD u undef]) w₂ := by
    simp only [results, h]
    simp [Sem.run_bind, Result.andThen]
  rw [h1, hp]
  simp [asAddr, run_loadVar_row w g tt ty cs fr d hg hu hd hi]

set_option maxHeartbeats 3200000 in
set_option maxRecDepth 100000 in
theorem mapFirst_any (B S : Nat) (σ : Sto) (h b : Nat) (n : Int) (w : World) (hI : Inv B w σ) (hB : B ≤ w.heap.size) (T : Tree σ h b) (hne : cont σ h b ≠ []) (h0 : w.cell? ⟨S, 0, none⟩ = some (.pointer (some ⟨b, 0, none⟩))) (h1 : w.cell? ⟨S, 1, none⟩ = some (.int .i64 n)) (hn : n ≠ 0) :
    Calls Try.prog 44 #[.pointer (some ⟨S, 0, none⟩)] w fun e w' => ∃ y Q, e = .returned (.tuple #[.int .u64 y.k, .agg #[.int .u64 y.c, .int .u64 y.s, .nilIface], .bool true]) ∧ cont σ h b = y :: Q ∧ Below w.heap.size w w' := by
  have hpos : h = 0 → 0 < nE σ b := by
    intro e; subst e
    simp only [cont] at hne
    exact List.length_pos_iff.2 hne
  have hfi := first_any B σ h b (w.alloc Z47) (hI.alloc _) (by simp; omega) T.wf hpos
  have HFI := (show Hid _ from hfi)
  have a0 := alloc_cell0 Z47 h0
  have a1 := alloc_cell0 Z47 h1
  have nz := alloc_new0 w Z47
  clear hI T hne hpos hfi h0 h1
  go_enter Try.func44, Try.ntmps44
  go_wp2_with fail
  refine Calls.mono HFI.out ?_
  rintro e w1 ⟨y, Q, rfl, hyq, hbel⟩
  have HQ : Hid (cont σ h b = y :: Q ∧ Below (w.alloc Z47).heap.size (w.alloc Z47) w1) := ⟨hyq, hbel⟩
  have hs1 : w.heap.size < w1.heap.size := by have := hbel.size; simp at this; omega
  have hz1 : w1.heap[w.heap.size]? = some Z47 := by rw [hbel.block w.heap.size (by simp)]; exact nz
  clear hyq hbel HFI a0 a1 nz
  obtain ⟨yk, yc, ys, hy⟩ : ∃ yk yc ys, y = ⟨yk, yc, ys⟩ := ⟨y.k, y.c, y.s, rfl⟩
  subst hy
  have HB2 : Hid (Below w.heap.size w (w1.alloc (.cells #[.int .u64 yk, .int .u64 yc, .int .u64 ys, .nilIface] 64))) :=
    (((Below.refl w.heap.size w).alloc (Nat.le_refl _) Z47).trans (HQ.out.2.mono (by simp))).alloc (by omega) _
  have e1 : (w1.alloc (.cells #[.int .u64 yk, .int .u64 yc, .int .u64 ys, .nilIface] 64)).heap[w.heap.size]? = some Z47 := by rw [Below.heap_alloc w1 _ _ hs1]; exact hz1
  have e2 : (w1.alloc (.cells #[.int .u64 yk, .int .u64 yc, .int .u64 ys, .nilIface] 64)).heap[w1.heap.size]? = some (.cells #[.int .u64 yk, .int .u64 yc, .int .u64 ys, .nilIface] 64 (0, 0)) := alloc_new0 w1 _
  obtain ⟨q, hq⟩ : ∃ q, q = w1.heap.size := ⟨_, rfl⟩
  have hqw : w.heap.size ≠ q := by omega
  rw [← hq] at e2
  unfold entVal
  go_upto_region 4 with fail
  rw [← hq]
  generalize w1.alloc (.cells #[.int .u64 yk, .int .u64 yc, .int .u64 ys, .nilIface] 64) = W2 at e1 e2 HB2 ⊢
  have x0 : W2.cell? ⟨q, 0, none⟩ = some (.int .u64 yk) := by rw [cell_of_row W2 q 0 _ 64 (0, 0) e2]; rfl
  have x1 : W2.cell? ⟨q, 1, none⟩ = some (.int .u64 yc) := by rw [cell_of_row W2 q 1 _ 64 (0, 0) e2]; rfl
  have x2 : W2.cell? ⟨q, 2, none⟩ = some (.int .u64 ys) := by rw [cell_of_row W2 q 2 _ 64 (0, 0) e2]; rfl
  have x3 : W2.cell? ⟨q, 3, none⟩ = some .nilIface := by rw [cell_of_row W2 q 3 _ 64 (0, 0) e2]; rfl
  have y0 : W2.cell? ⟨w.heap.size, 0, none⟩ = some (.int .u64 0) := by rw [cell_of_row W2 _ 0 _ 47 (0, 0) e1]; rfl
  have y1 : W2.cell? ⟨w.heap.size, 1, none⟩ = some (.int .u64 0) := by rw [cell_of_row W2 _ 1 _ 47 (0, 0) e1]; rfl
  have y2 : W2.cell? ⟨w.heap.size, 2, none⟩ = some .nilIface := by rw [cell_of_row W2 _ 2 _ 47 (0, 0) e1]; rfl
  have f0 : W2.frozen? ⟨w.heap.size, 0, none⟩ = false := by simp [World.frozen?, e1]
  have f1 : W2.frozen? ⟨w.heap.size, 1, none⟩ = false := by simp [World.frozen?, e1]
  have f2 : W2.frozen? ⟨w.heap.size, 2, none⟩ = false := by simp [World.frozen?, e1]
  have HE1 : Hid (W2.heap[w.heap.size]? = some Z47) := e1
  clear e1 e2 hq hs1 hz1
  apply wp_region_one
  case h =>
    go_region_law (fail)
    all_goals exact ⟨rfl, rfl⟩
  case k =>
    go_wp2_with fail
    (try simp only [Exit.inBlock, Exit.then]); refine bodyPost_ret (results_triple (P := Try.prog) rfl _ _ w.heap.size 47 #[.int .u64 yc, .int .u64 ys, .nilIface] (0, 0) _ rfl (heap_setCell_at (j := 2) .nilIface (heap_setCell_at (j := 1) (.int .u64 ys) (heap_setCell_at (j := 0) (.int .u64 yc) HE1.out))) Try.underlying47 rfl (by kernel_rfl)) rfl ?_
    exact ⟨⟨yk, yc, ys⟩, Q, rfl, HQ.out.1, (((HB2.out.setCell (p := ⟨w.heap.size, 0, none⟩) (Nat.le_refl _) _).setCell (p := ⟨w.heap.size, 1, none⟩) (Nat.le_refl _) _).setCell (p := ⟨w.heap.size, 2, none⟩) (Nat.le_refl _) _).drew⟩
end Go.Proofs.Qxb6613550a
