/-
  Sessions.reindex.
-/
import Derived.Test.Qxb6613550aFrom
import Derived.Test.Qxb6613550aRest
namespace Go.Proofs.Qxb6613550a
open Go.RowKit Go.Shelf Go.Maps
set_option linter.unusedVariables false
attribute [local go_sem] Oper.semAt_some

theorem eqlNil32 (w : World) : (binOp .eql 32 (.map none) (.map none)).run Try.prog w = .ok (.bool true) w := by kernel_rfl
theorem eqlSome32 (bm : Nat) (w : World) : (binOp .eql 32 (.map (some bm)) (.map none)).run Try.prog w = .ok (.bool false) w := by kernel_rfl

set_option maxHeartbeats 1600000 in
set_option maxRecDepth 100000 in
/-- Nothing to do. -/
theorem rein_idle (S : Nat) (r o : Int) (w : World) (h5 : w.cell? ⟨S, 5, none⟩ = some (.map none)) (h4 : w.cell? ⟨S, 4, none⟩ = some (.int .i64 r)) (h10 : w.cell? ⟨S, 10, none⟩ = some (.int .i64 o)) (hr : r ≤ 4 * o) (ho0 : 0 ≤ o) (ho1 : o ≤ 10000) :
    Calls Try.prog 35 #[.pointer (some ⟨S, 0, none⟩)] w fun e w' => e = .returned (.tuple #[]) ∧ Below w.heap.size w w' := by
  have a5 := alloc_cell0 (.cells #[.pointer (some ⟨S, 0, none⟩)] 48) h5
  have a4 := alloc_cell0 (.cells #[.pointer (some ⟨S, 0, none⟩)] 48) h4
  have a10 := alloc_cell0 (.cells #[.pointer (some ⟨S, 0, none⟩)] 48) h10
  have hm : IntKind.i64.wrap (4 * o) = 4 * o := IntWalk.i64_in _ (by omega)
  have hb : Below w.heap.size w (w.alloc (.cells #[.pointer (some ⟨S, 0, none⟩)] 48)) := (Below.refl _ w).alloc (Nat.le_refl _) _
  have ax : (w.alloc (.cells #[.pointer (some ⟨S, 0, none⟩)] 48)).cell? ⟨w.heap.size, 0, none⟩ = some (.pointer (some ⟨S, 0, none⟩)) := by rw [cell_of_row _ _ 0 _ 48 (0, 0) (alloc_new0 w _)]; rfl
  have hen := eqlNil32
  go_enter Try.func35, Try.ntmps35
  go_upto_region 1 with fail
  generalize w.alloc (.cells #[.pointer (some ⟨S, 0, none⟩)] 48) = W0 at a5 a4 a10 hb ax ⊢
  clear h5 h4 h10
  go_wp2_with fail
  go_quiet (fail)
  go_wp2_with fail
  first | go_end0 | refine bodyPost_ret (results_none rfl _ _ _) rfl ?_
  exact ⟨rfl, hb.trans ⟨rfl, rfl, rfl, Nat.le_refl _, fun _ _ => rfl⟩⟩

/-- Between two rounds of reindex' loop. -/
structure Ri (B S M2 C X : Nat) (w : World) (o : Int) (N : Nat) (pre : List SE) (W : World) : Prop where
  st : ∃ (cur' : Array Value) (r' : Int), W.heap[S]? = some (.cells cur' 36 (0, 0)) ∧ cur'.size = 11 ∧ cur'[5]? = some (.map (some M2)) ∧ cur'[6]? = some (.int .i64 r') ∧ 0 ≤ r' ∧ r' ≤ 200 ∧ cur'[10]? = some (.int .i64 o)
  own : ∃ D, OwnM W M2 pre.length D
  few : pre.length ≤ 64
  cnt : W.heap[C]? = some (.cells #[.int .i64 pre.length] 3 (0, 0))
  box : W.heap[X]? = some (.cells #[.pointer (some ⟨S, 0, none⟩)] 48 (0, 0))
  old : ∀ k, k < w.heap.size → k ≠ S → W.heap[k]? = w.heap[k]?
  bel : Below B w W
  sz : N ≤ W.heap.size

/-- A round has left by 'return'. -/
structure Rj (B S : Nat) (w : World) (o : Int) (N : Nat) (W : World) : Prop where
  st : ∃ (cur' : Array Value), W.heap[S]? = some (.cells cur' 36 (0, 0)) ∧ cur'.size = 11 ∧ cur'[10]? = some (.int .i64 o)
  old : ∀ k, k < w.heap.size → k ≠ S → W.heap[k]? = w.heap[k]?
  bel : Below B w W
  sz : N ≤ W.heap.size

theorem old_keep {N : Nat} {W W' : World} {row : Option Nat} (hg : W.grownBy W' row) (hr : ∀ r, row = some r → N ≤ r ∧ ∃ o : Obj, W.heap[r]? = some o ∧ o.isCells = false) {k : Nat} (hk : k < N) (hk2 : k < W.heap.size) : W'.heap[k]? = W.heap[k]? :=
  hg.block k hk2 (fun e => by have := (hr k e.symm).1; omega)

theorem Ri.ownF {B S M2 C X : Nat} {w : World} {o : Int} {N : Nat} (hS : S < N) (hM : M2 < N) (hC : C < N) (hX : X < N) (hw : w.heap.size ≤ N) (hB : B ≤ w.heap.size) : OwnFrom N (Ri B S M2 C X w o N) := by
  intro s W W' row h hg hr
  have key : ∀ k ob, k < N → W.heap[k]? = some ob → W'.heap[k]? = some ob := fun k ob hk hkk => by rw [old_keep hg hr hk (heap_lt hkk)]; exact hkk
  obtain ⟨cur', r', t1, t2⟩ := h.st
  obtain ⟨D, hD⟩ := h.own
  exact ⟨⟨cur', r', key S _ hS t1, t2⟩, ⟨D, OwnM.keep hD (fun ob ho => key M2 _ hM ho)⟩, h.few, key C _ hC h.cnt, key X _ hX h.box,
    fun k hk hkS => by rw [old_keep hg hr (by omega) (by have := h.sz; omega)]; exact h.old k hk hkS, h.bel.grown hg (Nat.le_trans hB h.bel.size) (fun k e => by have := (hr k e).1; omega), Nat.le_trans h.sz hg.size⟩
theorem Rj.ownF {B S : Nat} {w : World} {o : Int} {N : Nat} (hS : S < N) (hw : w.heap.size ≤ N) (hB : B ≤ w.heap.size) (c : Code) : OwnFrom N (fun (_ : List SE) W => c = .ret ∧ Rj B S w o N W) := by
  rintro s W W' row ⟨hc, h⟩ hg hr
  have key : ∀ k ob, k < N → W.heap[k]? = some ob → W'.heap[k]? = some ob := fun k ob hk hkk => by rw [old_keep hg hr hk (heap_lt hkk)]; exact hkk
  obtain ⟨cur', t1, t2⟩ := h.st
  exact ⟨hc, ⟨cur', key S _ hS t1, t2⟩, fun k hk hkS => by rw [old_keep hg hr (by omega) (by have := h.sz; omega)]; exact h.old k hk hkS, h.bel.grown hg (Nat.le_trans hB h.bel.size) (fun k e => by have := (hr k e).1; omega), Nat.le_trans h.sz hg.size⟩

/-- The loop variables' slots, and the box of the second. -/
def Axr (F : SE → Nat → Act) (x : SE) (a' : Act) (W : World) : Prop := ∃ Bx, W.heap[Bx]? = some (.cells #[.int .u64 x.1.c, .int .u64 x.1.s, .nilIface] 47 (0, 0)) ∧ a' = F x Bx
theorem Axr.ownF (N : Nat) (F : SE → Nat → Act) (x : SE) (a' : Act) : OwnFrom N (fun (_ : Unit) W => Axr F x a' W) := by
  rintro s W W' row ⟨Bx, h1, h2⟩ hg hr
  refine ⟨Bx, ?_, h2⟩
  rw [hg.block Bx (heap_lt h1) (fun e => by obtain ⟨-, ob, ho, hc⟩ := hr Bx e.symm; rw [h1] at ho; cases ho; cases hc)]; exact h1

theorem Kq.putObj {w : World} (W : World) (l : Nat) (o o' : Obj) (_ : w.heap.size ≤ l) (h : W.heap[l]? = some o) (hc : o.isCells = false) (_ : o.isWalk = false) : Kq W (W.putObj l o') := by
  have hg := grownBy_putObj' W l o'
  refine ⟨hg.size, fun k cur t fr hk _ => ?_⟩
  rw [hg.block k (heap_lt hk) (fun e => by cases e; rw [h] at hk; cases hk; cases hc)]; exact hk

/-- A drawn region's ways meet again: one frame, a world of which something is known. -/
def EndW (A : Act) (X : World → Prop) : Exit → Act → World → Prop
  | .normal, a, w => a = A ∧ X w
  | _, _, _ => False
theorem wpIn_region_w {F : Fence} {n : Nat} {P : Program} {id : Nat} {ops : Array Oper} {b : Bool} {Q : Exit → Act → World → Prop} {a : Act} {w : World} (A : Act) (X : World → Prop)
    (h : (Code.region id ops b).wpIn F n P (EndW A X) a w) (k : ∀ W2, X W2 → Q .normal A W2) : (Code.region id ops b).wpIn F n P Q a w :=
  wpIn_mono h (fun e a' w' h' => by cases e <;> first | exact (h' : False).elim | (obtain ⟨rfl, hx⟩ := h'; exact k _ hx))

theorem wpIn_region_one {F : Fence} {n : Nat} {P : Program} {id : Nat} {ops : Array Oper} {b : Bool} {Q : Exit → Act → World → Prop} {a : Act} {w : World} (A : Act) (W : World) (h : (Code.region id ops b).wpIn F n P (Endx A W) a w) (k : Q .normal A W) : (Code.region id ops b).wpIn F n P Q a w :=
  wpIn_mono h (fun e a' w' h' => by cases e <;> first | exact (h' : False).elim | (obtain ⟨rfl, rfl⟩ := h'; exact k))

set_option maxHeartbeats 6400000 in
set_option maxRecDepth 100000 in
theorem rein_go (B S M m : Nat) (σ : Sto) (L : List Ent) (D : DataW Unit) (u o r fl : Int) (cur : Array Value) (w : World) (hs : Ses B S M w σ L m D u o cur) (hL : L.length ≤ 4990) (hne : L ≠ []) (h5 : cur[5]? = some (.map none)) (h9 : cur[9]? = some (.int .u64 fl)) (h4 : cur[4]? = some (.int .i64 r)) (hr : ¬ r ≤ 4 * o) (ho0 : 0 ≤ o) (ho1 : o ≤ 10000) :
    CallsIn Fence.wide 10 Try.prog 35 #[.pointer (some ⟨S, 0, none⟩)] w fun e w' => e = .returned (.tuple #[]) ∧ ∃ cur', w'.heap[S]? = some (.cells cur' 36 (0, 0)) ∧ cur'.size = 11 ∧ cur'[10]? = some (.int .i64 o) ∧ (∀ k, k < w.heap.size → k ≠ S → w'.heap[k]? = w.heap[k]?) ∧ Below B w w' := by
  have hdd : ∀ k : Nat, (Fence.wide.depth.isSome = true → 1 ≤ k) := fun k h => by cases h
  have HBw : Hid (B ≤ w.heap.size) := hs.hB
  have HBS : Hid (B ≤ S) := hs.hBS
  obtain ⟨W0, hW0⟩ : ∃ W0, W0 = w.alloc (.cells #[.pointer (some ⟨S, 0, none⟩)] 48) := ⟨_, rfl⟩
  obtain ⟨X, hX⟩ : ∃ X, X = w.heap.size := ⟨_, rfl⟩
  have hb0 : Below w.heap.size w W0 := by rw [hW0]; exact (Below.refl _ w).alloc (Nat.le_refl _) _
  have hs0 := hs.below hb0
  have hX0 : W0.heap[X]? = some (.cells #[.pointer (some ⟨S, 0, none⟩)] 48 (0, 0)) := by rw [hW0, hX]; exact alloc_new0 w _
  have ax : W0.cell? ⟨X, 0, none⟩ = some (.pointer (some ⟨S, 0, none⟩)) := by rw [cell_of_row _ _ 0 _ 48 (0, 0) hX0]; rfl
  have a5 : W0.cell? ⟨S, 5, none⟩ = some (.map none) := by rw [cell_of_row _ _ 5 _ 36 (0, 0) hs0.hS]; exact h5
  have a4 : W0.cell? ⟨S, 4, none⟩ = some (.int .i64 r) := by rw [cell_of_row _ _ 4 _ 36 (0, 0) hs0.hS]; exact h4
  have a10 : W0.cell? ⟨S, 10, none⟩ = some (.int .i64 o) := by rw [cell_of_row _ _ 10 _ 36 (0, 0) hs0.hS]; exact hs0.c10
  have hm : IntKind.i64.wrap (4 * o) = 4 * o := IntWalk.i64_in _ (by omega)
  refine callsIn_of_wp_marks Try.func35 rfl trivial ?_ rfl
  simp only [Try.ntmps35, List.size_toArray, List.length_cons, List.length_nil, Nat.reduceAdd, Nat.reduceSub, Array.replicate_succ, Array.replicate_zero, List.push_toArray, List.append_toArray, List.nil_append, List.cons_append]
  refine wpIn_wide.2 ?_
  have HS0 : Hid (Ses B S M W0 σ L m D u o cur ∧ Below w.heap.size w W0 ∧ W0.heap[X]? = some (.cells #[.pointer (some ⟨S, 0, none⟩)] 48 (0, 0)) ∧ X = w.heap.size ∧ L ≠ [] ∧ cur[9]? = some (.int .u64 fl)) := ⟨hs0, hb0, hX0, hX, hne, h9⟩
  go_upto_region 1 with fail
  rw [← hW0, ← hX]
  clear hW0 hX hs hs0 hb0 hX0 hne h9 h5 h4
  have hen := eqlNil32 W0
  go_wp2_with fail
  go_quiet (fail)
  go_upto_region 3 with fail
  clear hen hm a4 a5 a10 ax
  generalize hW1 : World.drewN W0 _ = W1
  obtain ⟨hs0, hb0, hX0, hX, hne, h9⟩ := HS0.out
  have hd1 : W1.heap = W0.heap := by rw [← hW1]; rfl
  have hb1 : Below w.heap.size w W1 := by rw [← hW1]; exact hb0.trans ⟨rfl, rfl, rfl, Nat.le_refl _, fun _ _ => rfl⟩
  have hs1 : Ses B S M W1 σ L m D u o cur := hs0.below (by rw [← hW1]; exact ⟨rfl, rfl, rfl, Nat.le_refl _, fun _ _ => rfl⟩)
  have hX1 : W1.heap[X]? = some (.cells #[.pointer (some ⟨S, 0, none⟩)] 48 (0, 0)) := by rw [hd1]; exact hX0
  have hmk := run_makeMap_hint o W1.drew
  obtain ⟨M2, hM2⟩ : ∃ M2, M2 = W1.heap.size := ⟨_, rfl⟩
  have hM2d : W1.drew.heap.size = M2 := hM2.symm
  rw [hM2d] at hmk
  have hb2 : Below W1.heap.size W1 (W1.drew.alloc (.map #[] 0)) := (Below.refl _ W1).drew.alloc (Nat.le_refl _) _
  have hown2 : OwnM (W1.drew.alloc (.map #[] 0)) M2 0 (.map []) := by rw [hM2]; exact World.ownsMap_made W1.drew _ _ _
  generalize W1.drew.alloc (.map #[] 0) = W2 at hmk hb2 hown2
  have hs2 := hs1.below hb2
  have hX2 : W2.heap[X]? = some (.cells #[.pointer (some ⟨S, 0, none⟩)] 48 (0, 0)) := by rw [hb2.block X (heap_lt hX1)]; exact hX1
  have e6 : ∃ v6, cur[6]? = some v6 := ⟨cur[6]'(by rw [hs0.sz]; omega), by simp [hs0.sz]⟩
  have e7 : ∃ v7, cur[7]? = some v7 := ⟨cur[7]'(by rw [hs0.sz]; omega), by simp [hs0.sz]⟩
  have e5 : ∃ v5, cur[5]? = some v5 := ⟨cur[5]'(by rw [hs0.sz]; omega), by simp [hs0.sz]⟩
  obtain ⟨v6, e6⟩ := e6
  obtain ⟨v7, e7⟩ := e7
  obtain ⟨v5, e5⟩ := e5
  have x1 : W1.cell? ⟨X, 0, none⟩ = some (.pointer (some ⟨S, 0, none⟩)) := by rw [cell_of_row _ _ 0 _ 48 (0, 0) hX1]; rfl
  have x2 : W2.cell? ⟨X, 0, none⟩ = some (.pointer (some ⟨S, 0, none⟩)) := by rw [cell_of_row _ _ 0 _ 48 (0, 0) hX2]; rfl
  have y10 : W1.cell? ⟨S, 10, none⟩ = some (.int .i64 o) := by rw [cell_of_row _ _ 10 _ 36 (0, 0) hs1.hS]; exact hs1.c10
  have y9 : W1.cell? ⟨S, 9, none⟩ = some (.int .u64 fl) := by rw [cell_of_row _ _ 9 _ 36 (0, 0) hs1.hS]; exact h9
  have z9 : W2.cell? ⟨S, 9, none⟩ = some (.int .u64 fl) := by rw [cell_of_row _ _ 9 _ 36 (0, 0) hs2.hS]; exact h9
  have z10 : W2.cell? ⟨S, 10, none⟩ = some (.int .i64 o) := by rw [cell_of_row _ _ 10 _ 36 (0, 0) hs2.hS]; exact hs2.c10
  have z5 : W2.cell? ⟨S, 5, none⟩ = some v5 := by rw [cell_of_row _ _ 5 _ 36 (0, 0) hs2.hS]; exact e5
  have z6 : W2.cell? ⟨S, 6, none⟩ = some v6 := by rw [cell_of_row _ _ 6 _ 36 (0, 0) hs2.hS]; exact e6
  have z7 : W2.cell? ⟨S, 7, none⟩ = some v7 := by rw [cell_of_row _ _ 7 _ 36 (0, 0) hs2.hS]; exact e7
  have g5 : W2.frozen? ⟨S, 5, none⟩ = false := by simp [World.frozen?, hs2.hS]
  have g6 : W2.frozen? ⟨S, 6, none⟩ = false := by simp [World.frozen?, hs2.hS]
  have g7 : W2.frozen? ⟨S, 7, none⟩ = false := by simp [World.frozen?, hs2.hS]
  obtain ⟨W3, hW3⟩ : ∃ W3, W3 = ((W2.setCell ⟨S, 5, none⟩ (.map (some M2))).setCell ⟨S, 6, none⟩ (.int .i64 0)).setCell ⟨S, 7, none⟩ (.int .u64 fl) := ⟨_, rfl⟩
  obtain ⟨cur3, hcur3⟩ : ∃ cur3, cur3 = ((cur.setIfInBounds 5 (.map (some M2))).setIfInBounds 6 (.int .i64 0)).setIfInBounds 7 (.int .u64 fl) := ⟨_, rfl⟩
  have hM2S : M2 ≠ S := by have := heap_lt hs1.hS; omega
  have hXS : X ≠ S := fun e => by rw [e, hs1.hS] at hX1; cases hX1
  have k3 : ∀ j, j ≠ 5 → j ≠ 6 → j ≠ 7 → cur3[j]? = cur[j]? := fun j h5 h6 h7 => by rw [hcur3, Array.getElem?_setIfInBounds, if_neg (by omega), Array.getElem?_setIfInBounds, if_neg (by omega), Array.getElem?_setIfInBounds, if_neg (by omega)]
  have k5 : cur3[5]? = some (.map (some M2)) := by rw [hcur3, Array.getElem?_setIfInBounds, if_neg (by omega), Array.getElem?_setIfInBounds, if_neg (by omega), Array.getElem?_setIfInBounds, if_pos rfl, if_pos (by rw [hs0.sz]; omega)]
  have k6 : cur3[6]? = some (.int .i64 0) := by rw [hcur3, Array.getElem?_setIfInBounds, if_neg (by omega), Array.getElem?_setIfInBounds, if_pos rfl, if_pos (by rw [Array.size_setIfInBounds, hs0.sz]; omega)]
  have k7 : cur3[7]? = some (.int .u64 fl) := by rw [hcur3, Array.getElem?_setIfInBounds, if_pos rfl, if_pos (by rw [Array.size_setIfInBounds, Array.size_setIfInBounds, hs0.sz]; omega)]
  have HS3 : Hid (W3.heap[S]? = some (.cells cur3 36 (0, 0)) ∧ cur3.size = 11 ∧ cur3[5]? = some (.map (some M2)) ∧ cur3[6]? = some (.int .i64 0) ∧ cur3[7]? = some (.int .u64 fl) ∧ (∀ j, j ≠ 5 → j ≠ 6 → j ≠ 7 → cur3[j]? = cur[j]?) ∧ Inv B W3 σ ∧ OwnM W3 M2 0 (.map []) ∧ W3.heap[X]? = some (.cells #[.pointer (some ⟨S, 0, none⟩)] 48 (0, 0)) ∧ (∀ k, k < w.heap.size → k ≠ S → W3.heap[k]? = w.heap[k]?) ∧ Below B w W3) := by
    refine ⟨by rw [hW3, hcur3]; exact heap_setCell_at _ (heap_setCell_at _ (heap_setCell_at _ hs2.hS)), by rw [hcur3]; simp [hs0.sz], k5, k6, k7, k3, ?_, ?_, ?_, fun k hk hkS => ?_, ?_⟩
    · rw [hW3]
      exact ((hs2.inv.setOth _ hs2.hS (by decide)).setOth _ (heap_setCell_at _ hs2.hS) (by decide)).setOth _ (heap_setCell_at _ (heap_setCell_at _ hs2.hS)) (by decide)
    · rw [hW3]
      exact ((hown2.setCell (a := ⟨S, 5, none⟩) hM2S _).setCell (a := ⟨S, 6, none⟩) hM2S _).setCell (a := ⟨S, 7, none⟩) hM2S _
    · rw [hW3, heap_setCell_not _ hXS, heap_setCell_not _ hXS, heap_setCell_not _ hXS]; exact hX2
    · rw [hW3, heap_setCell_not _ hkS, heap_setCell_not _ hkS, heap_setCell_not _ hkS, hb2.block k (by have := hb1.size; omega), hb1.block k hk]
    · rw [hW3]
      have hbw : B ≤ w.heap.size := HBw.out
      exact (((((hb1.mono hbw).trans (hb2.mono hs1.hB))).setCell (p := ⟨S, 5, none⟩) hs1.hBS _).setCell (p := ⟨S, 6, none⟩) hs1.hBS _).setCell (p := ⟨S, 7, none⟩) hs1.hBS _
  have c10' := hs2.c10
  have px : ((W2.setCell ⟨S, 5, none⟩ (.map (some M2))).setCell ⟨S, 6, none⟩ (.int .i64 0)).cell? ⟨X, 0, none⟩ = some (.pointer (some ⟨S, 0, none⟩)) := by rw [World.cell?_of_block (w := W2) (a := ⟨X, 0, none⟩) (by simp only [heap_setCell_not _ hXS])]; exact x2
  have p10 : ((W2.setCell ⟨S, 5, none⟩ (.map (some M2))).setCell ⟨S, 6, none⟩ (.int .i64 0)).cell? ⟨S, 10, none⟩ = some (.int .i64 o) := by rw [cell_of_row _ _ 10 _ 36 (0, 0) (heap_setCell_at (j := 6) (.int .i64 0) (heap_setCell_at (j := 5) (.map (some M2)) hs2.hS))]; simp; exact c10'
  have p9 : ((W2.setCell ⟨S, 5, none⟩ (.map (some M2))).setCell ⟨S, 6, none⟩ (.int .i64 0)).cell? ⟨S, 9, none⟩ = some (.int .u64 fl) := by rw [cell_of_row _ _ 9 _ 36 (0, 0) (heap_setCell_at (j := 6) (.int .i64 0) (heap_setCell_at (j := 5) (.map (some M2)) hs2.hS))]; simp; exact h9
  have qx : (((W2.setCell ⟨S, 5, none⟩ (.map (some M2))).setCell ⟨S, 6, none⟩ (.int .i64 0)).setCell ⟨S, 7, none⟩ (.int .u64 fl)).cell? ⟨X, 0, none⟩ = some (.pointer (some ⟨S, 0, none⟩)) := by rw [World.cell?_of_block (w := W2) (a := ⟨X, 0, none⟩) (by simp only [heap_setCell_not _ hXS])]; exact x2
  have q10 : (((W2.setCell ⟨S, 5, none⟩ (.map (some M2))).setCell ⟨S, 6, none⟩ (.int .i64 0)).setCell ⟨S, 7, none⟩ (.int .u64 fl)).cell? ⟨S, 10, none⟩ = some (.int .i64 o) := by rw [cell_of_row _ _ 10 _ 36 (0, 0) (heap_setCell_at (j := 7) (.int .u64 fl) (heap_setCell_at (j := 6) (.int .i64 0) (heap_setCell_at (j := 5) (.map (some M2)) hs2.hS)))]; simp; exact c10'
  have q9 : (((W2.setCell ⟨S, 5, none⟩ (.map (some M2))).setCell ⟨S, 6, none⟩ (.int .i64 0)).setCell ⟨S, 7, none⟩ (.int .u64 fl)).cell? ⟨S, 9, none⟩ = some (.int .u64 fl) := by rw [cell_of_row _ _ 9 _ 36 (0, 0) (heap_setCell_at (j := 7) (.int .u64 fl) (heap_setCell_at (j := 6) (.int .i64 0) (heap_setCell_at (j := 5) (.map (some M2)) hs2.hS)))]; simp; exact h9
  clear c10'
  have HBM : Hid (w.heap.size ≤ M2) := by show w.heap.size ≤ M2; have := hb1.size; omega
  have HML : Hid (M2 < W3.heap.size ∧ X < W3.heap.size) := ⟨HS3.out.2.2.2.2.2.2.2.1.lt, heap_lt HS3.out.2.2.2.2.2.2.2.2.1⟩
  clear hs0 hb0 hX0 hX hne h9 hd1 hW1 hb1 hs1 hX1 hM2 hM2d hb2 hown2 hs2 hX2 e5 e6 e7 hcur3 k3 k5 k6 k7
  apply wp_region_one
  case h =>
    go_region_held (fun w' => w'.cell? ⟨X, 0, none⟩ = some (.pointer (some ⟨S, 0, none⟩)) ∧ w'.cell? ⟨S, 10, none⟩ = some (.int .i64 o) ∧ w'.cell? ⟨S, 9, none⟩ = some (.int .u64 fl)) (first | exact ⟨px, p10, p9⟩ | exact ⟨qx, q10, q9⟩ | go_keep) (fail)
    all_goals exact ⟨rfl, rfl⟩
  case k =>
    go_upto_region 4 with fail
    rw [← hW3]
    clear px p10 p9 qx q10 q9
    clear hW3 hmk x1 x2 y10 y9 z9 z10 z5 z6 z7 g5 g6 g7
    obtain ⟨C, hC⟩ : ∃ C, C = W3.heap.size := ⟨_, rfl⟩
    obtain ⟨h, b, hr0, hTr, hct⟩ : ∃ h b, cur[0]? = some (.pointer (some ⟨b, 0, none⟩)) ∧ Tree σ h b ∧ cont σ h b = L := by
      rcases HS0.out.1.st with ⟨_, e⟩ | e
      · exact absurd e HS0.out.2.2.2.2.1
      · exact e
    have H4 : Hid ((W3.alloc (.cells #[.int .i64 0] 3)).heap[S]? = some (.cells cur3 36 (0, 0)) ∧ Inv B (W3.alloc (.cells #[.int .i64 0] 3)) σ ∧ OwnM (W3.alloc (.cells #[.int .i64 0] 3)) M2 0 (.map []) ∧ (W3.alloc (.cells #[.int .i64 0] 3)).heap[X]? = some (.cells #[.pointer (some ⟨S, 0, none⟩)] 48 (0, 0)) ∧ (∀ k, k < w.heap.size → k ≠ S → (W3.alloc (.cells #[.int .i64 0] 3)).heap[k]? = w.heap[k]?) ∧ Below B w (W3.alloc (.cells #[.int .i64 0] 3)) ∧ (W3.alloc (.cells #[.int .i64 0] 3)).heap[C]? = some (.cells #[.int .i64 0] 3 (0, 0)) ∧ M2 < C ∧ X < C ∧ S < C ∧ w.heap.size ≤ C) := by
      obtain ⟨t1, t2, t3, t4, t5, t6, t7, t8, t9, t10, t11⟩ := HS3.out
      have hSl := heap_lt t1
      refine ⟨by rw [Below.heap_alloc W3 _ S hSl]; exact t1, t7.alloc _, t8.alloc _, by rw [Below.heap_alloc W3 _ X (heap_lt t9)]; exact t9, fun k hk hkS => ?_, t11.alloc (Nat.le_trans HBw.out t11.size) _, by rw [hC]; exact alloc_new0 W3 _, by rw [hC]; exact t8.lt, by rw [hC]; exact heap_lt t9, by rw [hC]; exact hSl, by rw [hC]; exact t11.size⟩
      rw [Below.heap_alloc W3 _ k (Nat.lt_of_lt_of_le hk t11.size)]; exact t10 k hk hkS
    have HT : Hid (Tree σ h b ∧ cont σ h b = L ∧ cur3.size = 11 ∧ cur3[5]? = some (.map (some M2)) ∧ cur3[6]? = some (.int .i64 0) ∧ cur3[7]? = some (.int .u64 fl) ∧ cur3[10]? = some (.int .i64 o) ∧ (∀ e ∈ L, OkE e) ∧ Srt L ∧ cur3[0]? = some (.pointer (some ⟨b, 0, none⟩)) ∧ B ≤ S) := by
      obtain ⟨t1, t2, t3, t4, t5, t6, t7, t8, t9, t10, t11⟩ := HS3.out
      exact ⟨hTr, hct, t2, t3, t4, t5, by rw [t6 10 (by omega) (by omega) (by omega)]; exact HS0.out.1.c10, HS0.out.1.ok, HS0.out.1.srt, by rw [t6 0 (by omega) (by omega) (by omega)]; exact hr0, HS0.out.1.hBS⟩
    clear HS3 HML hr0 hTr hct HS0 hM2S hXS
    go_upto_region 5 with fail
    rw [← hC]
    clear hC
    generalize W3.alloc (.cells #[.int .i64 0] 3) = W4 at H4 ⊢
    have ax : W4.cell? ⟨X, 0, none⟩ = some (.pointer (some ⟨S, 0, none⟩)) := by rw [cell_of_row _ _ 0 _ 48 (0, 0) H4.out.2.2.2.1]; rfl
    have a7 : W4.cell? ⟨S, 7, none⟩ = some (.int .u64 fl) := by rw [cell_of_row _ _ 7 _ 36 (0, 0) H4.out.1]; exact HT.out.2.2.2.2.2.1
    have a0 : W4.cell? ⟨S, 0, none⟩ = some (.pointer (some ⟨b, 0, none⟩)) := by rw [cell_of_row _ _ 0 _ 36 (0, 0) H4.out.1]; exact HT.out.2.2.2.2.2.2.2.2.2.1
    have hfr := from_any S (some ⟨b, 0, none⟩) fl W4.drew a0
    have HFR := (show Hid _ from hfr)
    clear hfr a0
    apply wp_region_one
    case h =>
      go_region_with (go_at_call 45; refine Calls.mono HFR.out ?_; rintro e w' ⟨rfl, hw'⟩; subst w')
      all_goals exact ⟨rfl, rfl⟩
    case k =>
      clear HFR ax a7
      go_wp2_with fail
      obtain ⟨q0, hq0⟩ : ∃ q0, q0 = W4.heap.size := ⟨_, rfl⟩
      have H5 : Hid (Ri B S M2 C X w o (q0 + 3) [] (((W4.alloc (.cells #[.int .u64 fl] 23)).alloc (.cells #[.pointer (some ⟨b, 0, none⟩)] 29)).alloc (.cells #[.pointer (some ⟨W4.heap.size, 0, none⟩)] 92)).drew ∧ Inv B (((W4.alloc (.cells #[.int .u64 fl] 23)).alloc (.cells #[.pointer (some ⟨b, 0, none⟩)] 29)).alloc (.cells #[.pointer (some ⟨W4.heap.size, 0, none⟩)] 92)).drew σ ∧
          (((W4.alloc (.cells #[.int .u64 fl] 23)).alloc (.cells #[.pointer (some ⟨b, 0, none⟩)] 29)).alloc (.cells #[.pointer (some ⟨W4.heap.size, 0, none⟩)] 92)).drew.heap.size = q0 + 3 ∧
          (((W4.alloc (.cells #[.int .u64 fl] 23)).alloc (.cells #[.pointer (some ⟨b, 0, none⟩)] 29)).alloc (.cells #[.pointer (some ⟨W4.heap.size, 0, none⟩)] 92)).drew.cell? ⟨q0 + 1, 0, none⟩ = some (.pointer (some ⟨b, 0, none⟩)) ∧
          (((W4.alloc (.cells #[.int .u64 fl] 23)).alloc (.cells #[.pointer (some ⟨b, 0, none⟩)] 29)).alloc (.cells #[.pointer (some ⟨W4.heap.size, 0, none⟩)] 92)).drew.cell? ⟨q0 + 2, 0, none⟩ = some (.pointer (some ⟨q0, 0, none⟩)) ∧
          (((W4.alloc (.cells #[.int .u64 fl] 23)).alloc (.cells #[.pointer (some ⟨b, 0, none⟩)] 29)).alloc (.cells #[.pointer (some ⟨W4.heap.size, 0, none⟩)] 92)).drew.cell? ⟨q0, 0, none⟩ = some (.int .u64 fl)) := by
        obtain ⟨t1, t2, t3, t4, t5, t6, t7, t8, t9, t10, t11⟩ := H4.out
        obtain ⟨y1, y2, y3, y4, y5, y6, y7, y8, y9, y10, y11⟩ := HT.out
        have hb : Below W4.heap.size W4 (((W4.alloc (.cells #[.int .u64 fl] 23)).alloc (.cells #[.pointer (some ⟨b, 0, none⟩)] 29)).alloc (.cells #[.pointer (some ⟨W4.heap.size, 0, none⟩)] 92)).drew := ((((Below.refl _ W4).alloc (Nat.le_refl _) _).alloc (by simp) _).alloc (by simp; omega) _).drew
        refine ⟨⟨⟨cur3, 0, by rw [hb.block S (heap_lt t1)]; exact t1, y3, y4, y5, by omega, by omega, y7⟩, ⟨_, OwnM.keep t3 (fun ob ho => by rw [hb.block M2 (heap_lt ho)]; exact ho)⟩, Nat.zero_le _, by rw [hb.block C (heap_lt t7)]; exact t7, by rw [hb.block X (heap_lt t4)]; exact t4, fun k hk hkS => by rw [hb.block k (by have := t6.size; omega)]; exact t5 k hk hkS, t6.trans (hb.mono (Nat.le_trans HBw.out t6.size)), by show _ ≤ (((W4.alloc _).alloc _).alloc _).heap.size; simp; omega⟩, t2.below hb (Nat.le_refl _), by show (((W4.alloc _).alloc _).alloc _).heap.size = _; simp; omega, ?_, ?_, ?_⟩
        · have h1 := alloc_new0 (W4.alloc (.cells #[.int .u64 fl] 23)) (.cells #[.pointer (some ⟨b, 0, none⟩)] 29)
          rw [World.size_alloc, ← hq0] at h1
          have h2 : (((W4.alloc (.cells #[.int .u64 fl] 23)).alloc (.cells #[.pointer (some ⟨b, 0, none⟩)] 29)).alloc (.cells #[.pointer (some ⟨W4.heap.size, 0, none⟩)] 92)).drew.heap[q0 + 1]? = some (.cells #[.pointer (some ⟨b, 0, none⟩)] 29 (0, 0)) := by
            show (((W4.alloc _).alloc _).alloc _).heap[q0 + 1]? = _
            rw [Below.heap_alloc _ _ _ (by simp; omega)]; exact h1
          rw [cell_of_row _ _ 0 _ 29 (0, 0) h2]; rfl
        · have h1 := alloc_new0 ((W4.alloc (.cells #[.int .u64 fl] 23)).alloc (.cells #[.pointer (some ⟨b, 0, none⟩)] 29)) (.cells #[.pointer (some ⟨W4.heap.size, 0, none⟩)] 92)
          rw [World.size_alloc, World.size_alloc, ← hq0] at h1
          have h2 : (((W4.alloc (.cells #[.int .u64 fl] 23)).alloc (.cells #[.pointer (some ⟨b, 0, none⟩)] 29)).alloc (.cells #[.pointer (some ⟨W4.heap.size, 0, none⟩)] 92)).drew.heap[q0 + 2]? = some (.cells #[.pointer (some ⟨q0, 0, none⟩)] 92 (0, 0)) := by rw [← hq0]; exact h1
          rw [cell_of_row _ _ 0 _ 92 (0, 0) h2]; rfl
        · have h1 := alloc_new0 W4 (.cells #[.int .u64 fl] 23)
          rw [← hq0] at h1
          have h2 : (((W4.alloc (.cells #[.int .u64 fl] 23)).alloc (.cells #[.pointer (some ⟨b, 0, none⟩)] 29)).alloc (.cells #[.pointer (some ⟨W4.heap.size, 0, none⟩)] 92)).drew.heap[q0]? = some (.cells #[.int .u64 fl] 23 (0, 0)) := by
            show (((W4.alloc _).alloc _).alloc _).heap[q0]? = _
            rw [Below.heap_alloc _ _ _ (by simp; omega), Below.heap_alloc _ _ _ (by simp; omega)]; exact h1
          rw [cell_of_row _ _ 0 _ 23 (0, 0) h2]; rfl
      have HN : Hid (S < q0 + 3 ∧ M2 < q0 + 3 ∧ C < q0 + 3 ∧ X < q0 + 3 ∧ w.heap.size ≤ q0 + 3) := by
        obtain ⟨t1, t2, t3, t4, t5, t6, t7, t8, t9, t10, t11⟩ := H4.out
        have := heap_lt t7
        exact ⟨by omega, by omega, by omega, by omega, by omega⟩
      rw [← hq0]
      rw [← hq0] at H5
      generalize (((W4.alloc (.cells #[.int .u64 fl] 23)).alloc (.cells #[.pointer (some ⟨b, 0, none⟩)] 29)).alloc (.cells #[.pointer (some ⟨q0, 0, none⟩)] 92)).drew = W5 at H5 ⊢
      have HCL : Hid (M2 < C ∧ X < C ∧ S < C ∧ w.heap.size ≤ C) := ⟨H4.out.2.2.2.2.2.2.2.1, H4.out.2.2.2.2.2.2.2.2.1, H4.out.2.2.2.2.2.2.2.2.2.1, H4.out.2.2.2.2.2.2.2.2.2.2⟩
      clear hq0 H4
      refine (wpIn_wide (n := 10)).1 ?_
      obtain ⟨i1, i2, i3, i4, i5, i6⟩ := H5.out
      obtain ⟨n1, n2, n3, n4, n5⟩ := HN.out
      have hst := from_stops 9 B (q0 + 1) (q0 + 2) q0 σ h b fl W5 i2 HT.out.1.wf HT.out.1.srt (fun e he => HT.out.2.2.2.2.2.2.2.1 e (by rw [← HT.out.2.1]; exact he)) i4 i5 i6
      rw [← i3] at i1 n1 n2 n3 n4 n5
      refine wpIn_rangeFunc_ownH (F := Fence.wide) (n := 10) rfl (by omega) (gf := 54) (lb := #[.pointer (some ⟨q0 + 1, 0, none⟩), .pointer (some ⟨q0 + 2, 0, none⟩)]) (by rfl) trivial (enters_of Try.func54 (by kernel_rfl) rfl)
        hst Kq.trans Kq.putObj (Below.refl _ _) (fun _ => rfl)
        (Ri B S M2 C X w o W5.heap.size) (fun c _ W => c = .ret ∧ Rj B S w o W5.heap.size W) (Ri.ownF n1 n2 n3 n4 n5 HBw.out) (fun c => Rj.ownF n1 n5 HBw.out c) i1
        (Axr (fun x Bx => { tmps := #[.pointer (some ⟨S, 0, none⟩), .pointer (some ⟨X, 0, none⟩), .pointer (some ⟨C, 0, none⟩), .int .u64 x.1.k, .pointer (some ⟨Bx, 0, none⟩), .pointer (some ⟨S, 0, none⟩), .pointer (some ⟨S, 0, none⟩), .pointer (some ⟨S, 5, none⟩), .pointer (some ⟨S, 5, none⟩), .map none, .bool true, .pointer (some ⟨S, 0, none⟩), .pointer (some ⟨S, 0, none⟩), .pointer (some ⟨S, 3, none⟩), .pointer (some ⟨S, 4, none⟩), .int .i64 r, .pointer (some ⟨S, 0, none⟩), .pointer (some ⟨S, 0, none⟩), .pointer (some ⟨S, 10, none⟩), .int .i64 o, .int .i64 (4 * o), .bool (decide (r ≤ 4 * o)), .pointer (some ⟨S, 0, none⟩), .pointer (some ⟨S, 0, none⟩), .pointer (some ⟨S, 0, none⟩), .pointer (some ⟨S, 0, none⟩), .pointer (some ⟨S, 10, none⟩), .int .i64 o, .map (some M2), .agg #[.map (some M2), .int .i64 0], .pointer (some ⟨S, 0, none⟩), .pointer (some ⟨S, 0, none⟩), .pointer (some ⟨S, 9, none⟩), .int .u64 fl, .pointer (some ⟨S, 0, none⟩), .pointer (some ⟨S, 5, none⟩), .pointer (some ⟨S, 0, none⟩), .pointer (some ⟨S, 7, none⟩), .pointer (some ⟨S, 0, none⟩), .pointer (some ⟨S, 0, none⟩), .pointer (some ⟨S, 0, none⟩), .pointer (some ⟨S, 0, none⟩), .pointer (some ⟨S, 0, none⟩), .pointer (some ⟨S, 7, none⟩), .int .u64 fl, .func (.func 54) #[] #[.pointer (some ⟨q0 + 1, 0, none⟩), .pointer (some ⟨q0 + 2, 0, none⟩)], .int .u64 x.1.k, .agg #[.int .u64 x.1.c, .int .u64 x.1.s, .nilIface], undef, undef, undef, undef, undef, undef, undef, undef, undef, undef, undef, undef, undef, undef, undef, undef, undef, undef, undef, undef, undef, undef, undef, undef, undef, undef], defers := [] })) (fun x a' => Axr.ownF _ _ x a') ?assign ?body ?done ?stop
      case assign =>
        intro l pre x W K hi hK
        obtain ⟨Bx, hBx⟩ : ∃ Bx, Bx = W.heap.size := ⟨_, rfl⟩
        have hbW : Below W.heap.size W (W.alloc (.cells #[.int .u64 x.1.c, .int .u64 x.1.s, .nilIface] 47)) := (Below.refl _ W).alloc (Nat.le_refl _) _
        have hi2 : Ri B S M2 C X w o W5.heap.size pre (W.alloc (.cells #[.int .u64 x.1.c, .int .u64 x.1.s, .nilIface] 47)) := Ri.ownF n1 n2 n3 n4 n5 HBw.out pre W _ none hi (World.grownBy_alloc W _ none) (fun r e => by cases e)
        have hx2 : (W.alloc (.cells #[.int .u64 x.1.c, .int .u64 x.1.s, .nilIface] 47)).heap[Bx]? = some (.cells #[.int .u64 x.1.c, .int .u64 x.1.s, .nilIface] 47 (0, 0)) := by rw [hBx]; exact alloc_new0 W _
        have hkq : Kq W (W.alloc (.cells #[.int .u64 x.1.c, .int .u64 x.1.s, .nilIface] 47)) := ⟨hbW.size, fun k cur t fr hk _ => by rw [hbW.block k (heap_lt hk)]; exact hk⟩
        have hkf : KeepsFrom W5.heap.size W (W.alloc (.cells #[.int .u64 x.1.c, .int .u64 x.1.s, .nilIface] 47)) := ⟨hbW.size, fun k ob _ hk _ => by rw [hbW.block k (heap_lt hk)]; exact hk⟩
        simp only [encE]
        gi_wp2
        rw [← hBx]
        refine hK _ _ hkf hkq hi2 ⟨Bx, hx2, rfl⟩
      case body =>
        rintro l pre x a' W hl ⟨rr, hrr⟩ hI ⟨Bx, hBx, rfl⟩ hlt
        obtain ⟨cur', r', t1, t2, t3, t4, t5, t6, t7⟩ := hI.st
        obtain ⟨D', hD'⟩ := hI.own
        obtain ⟨p, hp⟩ : ∃ p, p = pre.length := ⟨_, rfl⟩
        have hcnt := hI.cnt
        have hfew := hI.few
        rw [← hp] at hcnt hfew hD'
        have ax : W.cell? ⟨X, 0, none⟩ = some (.pointer (some ⟨S, 0, none⟩)) := by rw [cell_of_row _ _ 0 _ 48 (0, 0) hI.box]; rfl
        have ac : W.cell? ⟨C, 0, none⟩ = some (.int .i64 p) := by rw [cell_of_row _ _ 0 _ 3 (0, 0) hcnt]; rfl
        have fc : W.frozen? ⟨C, 0, none⟩ = false := by simp [World.frozen?, hcnt]
        have ab : W.cell? ⟨Bx, 0, none⟩ = some (.int .u64 x.1.c) := by rw [cell_of_row _ _ 0 _ 47 (0, 0) hBx]; rfl
        have e7 : ∃ v7, W.cell? ⟨S, 7, none⟩ = some v7 := ⟨cur'[7]'(by omega), by rw [cell_of_row _ _ 7 _ 36 (0, 0) t1]; simp [t2]⟩
        obtain ⟨v7, e7⟩ := e7
        have f7 : W.frozen? ⟨S, 7, none⟩ = false := by simp [World.frozen?, t1]
        by_cases h64 : p = 64
        · subst h64
          have HI : Hid (Ri B S M2 C X w o W5.heap.size pre W ∧ W.heap[S]? = some (.cells cur' 36 (0, 0)) ∧ cur'.size = 11 ∧ cur'[10]? = some (.int .i64 o)) := ⟨hI, t1, t2, t7⟩
          clear hI t1 t2 t3 t4 t5 t6 t7 hcnt hBx hD' hp hst i1 i2 i3 i4 i5 i6
          gi_wp2
          obtain ⟨hI, t1, t2, t7⟩ := HI.out
          refine ⟨⟨by rw [size_setCell]; exact Nat.le_refl _, fun k ob _ hk hc => ?_⟩, rfl, ⟨_, heap_setCell_at _ t1, by simp [t2], ?_⟩, fun k hk hkS => ?_, hI.bel.setCell (p := ⟨S, 7, none⟩) HBS.out _, by rw [size_setCell]; exact hI.sz⟩
          · rw [heap_setCell_not _ (fun e => by subst e; rw [t1] at hk; cases hk; cases hc)]; exact hk
          · rw [Array.getElem?_setIfInBounds, if_neg (by omega)]; exact t7
          · rw [heap_setCell_not _ hkS]; exact hI.old k hk hkS
        · have hpb : ((p : Int) == 64) = false := by simp; omega
          have hpI : ¬ (p : Int) = 64 := by omega
          have hpw : IntKind.i64.wrap ((p : Int) + 1) = p + 1 := IntWalk.i64_in _ (by omega)
          have hc := cset_any B S 5 M2 p cur' x.1.c x.1.k r' D' W.drew t1 t3 t4 hD'.drew (by omega) x.2.2 x.2.1 HBS.out (Nat.le_trans HBw.out HBM.out) t5 (by omega)
          have HC := (show Hid _ from hc)
          have HI : Hid (Ri B S M2 C X w o W5.heap.size pre W ∧ W.heap[S]? = some (.cells cur' 36 (0, 0)) ∧ cur'.size = 11 ∧ cur'[5]? = some (.map (some M2)) ∧ r' ≤ 200 ∧ cur'[10]? = some (.int .i64 o) ∧ W.heap[C]? = some (.cells #[.int .i64 p] 3 (0, 0)) ∧ p = pre.length ∧ OwnM W M2 p D') := ⟨hI, t1, t2, t3, t6, t7, hcnt, hp, hD'⟩
          clear hI t1 t2 t3 t4 t5 t6 t7 hcnt hBx hD' hp hst i1 i2 i3 i4 i5 i6 hc
          gi_wp2_with fail
          apply wpIn_region_w (X := fun W2 => ∃ r2, 0 ≤ r2 ∧ r2 ≤ max r' (p + 1) ∧ W2.heap[S]? = some (.cells (cur'.setIfInBounds 6 (.int .i64 r2)) 36 (0, 0)) ∧ OwnM W2 M2 (p + 1) (D'.put (.int .u64 x.1.c) (.lit (.int .u64 x.1.k))) ∧ Kp2 B S M2 W.drew W2)
          case h =>
            gi_region_with (refine ⟨trivial, ?_⟩; refine CallsIn.mono (CallsIn.inRound l (callsIn_wide.2 HC.out)) ?_; rintro e W2 ⟨rfl, hX2⟩; have HX2 := (show Hid _ from hX2); clear hX2)
            all_goals exact ⟨rfl, HX2.out⟩
          case k =>
            rintro W2 ⟨r2, q1, q2, q3, q4, q5⟩
            obtain ⟨hI, t1, t2, t3, t6, t7, hcnt, hp, hD'⟩ := HI.out
            obtain ⟨c1, c2, c3, c4⟩ := HCL.out
            have hcnt2 : W2.heap[C]? = some (.cells #[.int .i64 p] 3 (0, 0)) := by rw [q5.oth C (heap_lt hcnt) (by omega) (by omega)]; exact hcnt
            have ac2 : W2.cell? ⟨C, 0, none⟩ = some (.int .i64 p) := by rw [cell_of_row _ _ 0 _ 3 (0, 0) hcnt2]; rfl
            have fc2 : W2.frozen? ⟨C, 0, none⟩ = false := by simp [World.frozen?, hcnt2]
            have hXM : X ≠ M2 := fun e => by obtain ⟨es, ck, hm, -⟩ := hD'; rw [← e, hI.box] at hm; cases hm
            have hXS : X ≠ S := fun e => by have := hI.box; rw [e, t1] at this; cases this
            have hMS : M2 ≠ S := OwnM.ne hD' t1
            have hmap : ∃ es ck, W.heap[M2]? = some (.map es ck) := by obtain ⟨es, ck, hm, -⟩ := hD'; exact ⟨es, ck, hm⟩
            obtain ⟨es, ck, hmap⟩ := hmap
            have HF : Hid (KeepsFrom W5.heap.size W (W2.setCell ⟨C, 0, none⟩ (.int .i64 (p + 1))) ∧ Kq W (W2.setCell ⟨C, 0, none⟩ (.int .i64 (p + 1))) ∧ Ri B S M2 C X w o W5.heap.size (pre ++ [x]) (W2.setCell ⟨C, 0, none⟩ (.int .i64 (p + 1)))) := by
              refine ⟨⟨by rw [size_setCell]; exact q5.bel.size, fun k ob hN hk hc => ?_⟩, ⟨by rw [size_setCell]; exact q5.bel.size, fun k cc t fr hk ht => ?_⟩, ⟨⟨cur'.setIfInBounds 6 (.int .i64 r2), r2, ?_, by rw [Array.size_setIfInBounds]; exact t2, ?_, ?_, q1, by omega, ?_⟩, ⟨D'.put (.int .u64 x.1.c) (.lit (.int .u64 x.1.k)), ?_⟩, (by rw [List.length_append]; show pre.length + 1 ≤ 64; omega), ?_, ?_, fun k hk hkS => ?_, ?_, ?_⟩⟩
              · rw [heap_setCell_not _ (fun e => by subst e; rw [hcnt] at hk; cases hk; cases hc), q5.oth k (heap_lt hk) (fun e => by subst e; rw [t1] at hk; cases hk; cases hc) (by omega)]; exact hk
              · rw [heap_setCell_not _ (fun e => by subst e; rw [hcnt] at hk; cases hk; rcases ht with h | h | h <;> cases h), q5.oth k (heap_lt hk) (fun e => by subst e; rw [t1] at hk; cases hk; rcases ht with h | h | h <;> cases h) (fun e => by subst e; rw [hmap] at hk; cases hk)]; exact hk
              · rw [heap_setCell_not _ (by omega)]; exact q3
              · rw [Array.getElem?_setIfInBounds, if_neg (by omega)]; exact t3
              · rw [Array.getElem?_setIfInBounds, if_pos rfl, if_pos (by omega)]
              · rw [Array.getElem?_setIfInBounds, if_neg (by omega)]; exact t7
              · rw [List.length_append, ← hp]; exact q4.setCell (a := ⟨C, 0, none⟩) (by show M2 ≠ C; omega) _
              · rw [heap_setCell_at _ hcnt2, List.length_append, ← hp]; rfl
              · rw [heap_setCell_not _ (by omega), q5.oth X (heap_lt hI.box) hXS hXM]; exact hI.box
              · rw [heap_setCell_not _ (by omega), q5.oth k (by have := hI.bel.size; exact Nat.lt_of_lt_of_le hk this) hkS (by have := HBM.out; omega)]; exact hI.old k hk hkS
              · exact (hI.bel.trans ((Below.refl B W).drew.trans q5.bel)).setCell (p := ⟨C, 0, none⟩) (by show B ≤ C; have := HBw.out; omega) _
              · rw [size_setCell]; exact Nat.le_trans hI.sz q5.bel.size
            clear hI t1 t2 t3 t6 t7 hcnt hp hD' c1 c2 c3 c4 q1 q2 q3 q4 q5 hcnt2 hmap
            gi_wp2
            exact HF.out
      case done =>
        rintro Dd ys W hD - hI hK
        obtain ⟨cur', r', t1, t2, t3, t4, t5, t6, t7⟩ := hI.st
        have HI : Hid (Ri B S M2 C X w o W5.heap.size ys W ∧ W.heap[S]? = some (.cells cur' 36 (0, 0)) ∧ cur'.size = 11 ∧ cur'[10]? = some (.int .i64 o) ∧ W.heap[Dd]? = some (.deferred (some [])) ∧ W5.heap.size ≤ Dd) := ⟨hI, t1, t2, t7, hK, hD⟩
        have ax : W.cell? ⟨X, 0, none⟩ = some (.pointer (some ⟨S, 0, none⟩)) := by rw [cell_of_row _ _ 0 _ 48 (0, 0) hI.box]; rfl
        have a5 : W.cell? ⟨S, 5, none⟩ = some (.map (some M2)) := by rw [cell_of_row _ _ 5 _ 36 (0, 0) t1]; exact t3
        have a6 : W.cell? ⟨S, 6, none⟩ = some (.int .i64 r') := by rw [cell_of_row _ _ 6 _ 36 (0, 0) t1]; exact t4
        have e3 : ∃ v3, W.cell? ⟨S, 3, none⟩ = some v3 := ⟨cur'[3]'(by omega), by rw [cell_of_row _ _ 3 _ 36 (0, 0) t1]; simp [t2]⟩
        have e4 : ∃ v4, W.cell? ⟨S, 4, none⟩ = some v4 := ⟨cur'[4]'(by omega), by rw [cell_of_row _ _ 4 _ 36 (0, 0) t1]; simp [t2]⟩
        obtain ⟨v3, e3⟩ := e3
        obtain ⟨v4, e4⟩ := e4
        have f3 : W.frozen? ⟨S, 3, none⟩ = false := by simp [World.frozen?, t1]
        have f4 : W.frozen? ⟨S, 4, none⟩ = false := by simp [World.frozen?, t1]
        have f5 : W.frozen? ⟨S, 5, none⟩ = false := by simp [World.frozen?, t1]
        have f6 : W.frozen? ⟨S, 6, none⟩ = false := by simp [World.frozen?, t1]
        have hXS : X ≠ S := fun e => by have := hI.box; rw [e, t1] at this; cases this
        clear hI t1 t2 t3 t4 t5 t6 t7 hK hD hst i1 i2 i3 i4 i5 i6
        go_upto_region 12 with fail
        apply wp_region_one
        case h =>
          go_region_law (fail)
          all_goals exact ⟨rfl, rfl⟩
        case k =>
          go_wp2_with fail
          obtain ⟨hI, t1, t2, t7, hK, hD⟩ := HI.out
          have hSk := heap_setCell_at (j := 6) (.int .i64 0) (heap_setCell_at (j := 5) (.map none) (heap_setCell_at (j := 4) (.int .i64 r') (heap_setCell_at (j := 3) (.map (some M2)) t1)))
          have hother : ∀ k, k ≠ S → ((((W.setCell ⟨S, 3, none⟩ (.map (some M2))).setCell ⟨S, 4, none⟩ (.int .i64 r')).setCell ⟨S, 5, none⟩ (.map none)).setCell ⟨S, 6, none⟩ (.int .i64 0)).drew.heap[k]? = W.heap[k]? := fun k hk => by
            show ((((W.setCell ⟨S, 3, none⟩ (.map (some M2))).setCell ⟨S, 4, none⟩ (.int .i64 r')).setCell ⟨S, 5, none⟩ (.map none)).setCell ⟨S, 6, none⟩ (.int .i64 0)).heap[k]? = _
            rw [heap_setCell_not _ hk, heap_setCell_not _ hk, heap_setCell_not _ hk, heap_setCell_not _ hk]
          have hK' := hother Dd (by omega)
          rw [hK] at hK'
          have hbel : Below B w ((((W.setCell ⟨S, 3, none⟩ (.map (some M2))).setCell ⟨S, 4, none⟩ (.int .i64 r')).setCell ⟨S, 5, none⟩ (.map none)).setCell ⟨S, 6, none⟩ (.int .i64 0)).drew := ((((hI.bel.setCell (p := ⟨S, 3, none⟩) HBS.out _).setCell (p := ⟨S, 4, none⟩) HBS.out _).setCell (p := ⟨S, 5, none⟩) HBS.out _).setCell (p := ⟨S, 6, none⟩) HBS.out _).drew
          have hSd : ((((W.setCell ⟨S, 3, none⟩ (.map (some M2))).setCell ⟨S, 4, none⟩ (.int .i64 r')).setCell ⟨S, 5, none⟩ (.map none)).setCell ⟨S, 6, none⟩ (.int .i64 0)).drew.heap[S]? = _ := hSk
          refine ⟨by simp, .inl ⟨_, _, rfl, run_takeDeferred hK', ?_⟩⟩
          have hgp := grownBy_putObj' ((((W.setCell ⟨S, 3, none⟩ (.map (some M2))).setCell ⟨S, 4, none⟩ (.int .i64 r')).setCell ⟨S, 5, none⟩ (.map none)).setCell ⟨S, 6, none⟩ (.int .i64 0)).drew Dd (.deferred none)
          refine ⟨_, results_none rfl _ _ _, rfl, _, (hgp.block S (heap_lt hSd) (fun e => by cases e; omega)).trans hSd, by simp [t2], ?_, fun k hk hkS => ?_, hbel.grown hgp (Nat.le_trans HBw.out hbel.size) (fun k e => by cases e; have := HBw.out; omega)⟩
          · rw [Array.getElem?_setIfInBounds, if_neg (by omega), Array.getElem?_setIfInBounds, if_neg (by omega), Array.getElem?_setIfInBounds, if_neg (by omega), Array.getElem?_setIfInBounds, if_neg (by omega)]; exact t7
          · rw [hgp.block k (by have := hbel.size; omega) (fun e => by cases e; omega), hother k hkS]; exact hI.old k hk hkS
      case stop =>
        rintro Dd c pre W hD - ⟨rfl, hj⟩ hK
        gi_wp2
        refine ⟨by simp, .inl ⟨_, _, rfl, run_takeDeferred hK, ?_⟩⟩
        obtain ⟨cur', t1, t2, t3⟩ := hj.st
        have hgp := grownBy_putObj' W Dd (.deferred none)
        refine ⟨_, results_none rfl _ _ _, rfl, cur', ?_, t2, t3, fun k hk hkS => ?_, hj.bel.grown hgp (Nat.le_trans HBw.out hj.bel.size) (fun k e => by cases e; have := HBw.out; omega)⟩
        · rw [hgp.block S (heap_lt t1) (fun e => by cases e; omega)]; exact t1
        · rw [hgp.block k (by have := hj.bel.size; omega) (fun e => by cases e; omega)]; exact hj.old k hk hkS

theorem rein_any (B S M m : Nat) (σ : Sto) (L : List Ent) (D : DataW Unit) (u o : Int) (cur : Array Value) (w : World) (hs : Ses B S M w σ L m D u o cur) (hL : L.length ≤ 4990) (hne : L ≠ []) (h5 : cur[5]? = some (.map none)) (h9 : ∃ fl, cur[9]? = some (.int .u64 fl)) (ho0 : 0 ≤ o) (ho1 : o ≤ 10000) :
    Calls Try.prog 35 #[.pointer (some ⟨S, 0, none⟩)] w fun e w' => e = .returned (.tuple #[]) ∧ ∃ cur', w'.heap[S]? = some (.cells cur' 36 (0, 0)) ∧ cur'.size = 11 ∧ cur'[10]? = some (.int .i64 o) ∧ (∀ k, k < w.heap.size → k ≠ S → w'.heap[k]? = w.heap[k]?) ∧ Below B w w' := by
  obtain ⟨r, h4, hr0, hr1⟩ := hs.c4
  obtain ⟨fl, h9⟩ := h9
  by_cases hr : r ≤ 4 * o
  · refine (rein_idle S r o w (by rw [cell_of_row _ _ 5 _ 36 (0, 0) hs.hS]; exact h5) (by rw [cell_of_row _ _ 4 _ 36 (0, 0) hs.hS]; exact h4) (by rw [cell_of_row _ _ 10 _ 36 (0, 0) hs.hS]; exact hs.c10) hr ho0 ho1).mono ?_
    rintro e w' ⟨rfl, hb⟩
    exact ⟨rfl, cur, (hb.block S (heap_lt hs.hS)).trans hs.hS, hs.sz, hs.c10, fun k hk _ => hb.block k hk, hb.mono hs.hB⟩
  · exact callsIn_wide.1 (rein_go B S M m σ L D u o r fl cur w hs hL hne h5 h9 h4 hr ho0 ho1)
end Go.Proofs.Qxb6613550a
