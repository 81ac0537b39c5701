/-
  THE STEPS OF THE TWO-STOREY FUNCTIONS ON THE STORE OF NODES: nothing of the walk.
-/
import Derived.Test.Qxb6613550aSearch
namespace Go.Proofs.Qxb6613550a
open Go.RowKit

/-- A region's ways meet again: one frame, one world. -/
def Endx (A : Act) (W : World) : Exit → Act → World → Prop
  | .normal, a, w => a = A ∧ w = W
  | _, _, _ => False
theorem wp_region_one {P : Program} {id : Nat} {ops : Array Oper} {b : Bool} {Q : Exit → Act → World → Prop} {a : Act} {w : World} (A : Act) (W : World) (h : (Code.region id ops b).wp P (Endx A W) a w) (k : Q .normal A W) : (Code.region id ops b).wp P Q a w :=
  Code.wp_mono (fun e a' w' h' => by cases e <;> first | exact (h' : False).elim | (obtain ⟨rfl, rfl⟩ := h'; exact k)) h

/-- Two appends to one row. -/
theorem grownBy_two {w w1 w2 : World} {row : Option Nat} {g : Nat} (h : w.grownBy w1 row) (k : w1.grownBy w2 (some g)) (hg : row = some g ∨ g = w.heap.size) : w.grownBy w2 row :=
  ⟨k.os.trans h.os, k.tape.trans h.tape, k.output.trans h.output, Nat.le_trans h.size k.size, fun j hj hne => (k.block j (Nat.lt_of_lt_of_le hj h.size) (fun e => by
    rcases hg with hg | hg
    · exact hne (by rw [hg]; exact e)
    · cases e; omega)).trans (h.block j hj hne)⟩

theorem ent_new (W : World) (e : Ent) (t : TypeId) : ∀ j u, (entCells e)[j]? = some u → (W.alloc (.cells #[.int .u64 e.k, .int .u64 e.c, .int .u64 e.s, .nilIface] t)).cell? ((⟨W.heap.size, 0, none⟩ : Addr).add j) = some u := by
  intro j u hu
  match j, hu with
  | 0, hu => simp [entCells] at hu; subst hu; simp [Addr.add]
  | 1, hu => simp [entCells] at hu; subst hu; simp [Addr.add]
  | 2, hu => simp [entCells] at hu; subst hu; simp [Addr.add]
  | 3, hu => simp [entCells] at hu; subst hu; simp [Addr.add]
  | n + 4, hu => simp [entCells] at hu

/-- The header of a node is kept where a row of entries is written. -/
theorem hdr_keptE {B : Nat} {W w1 : World} {σ : Sto} (hI : Inv B W σ) {bc : Nat} {nc : ND} (hc : σ bc = some nc) (hg : W.grownBy w1 nc.ve.ownBlock) {b : Nat} {nd : ND} (hb : σ b = some nd) (j : Nat) :
    w1.cell? ⟨b, j, none⟩ = W.cell? ⟨b, j, none⟩ ∧ w1.frozen? ⟨b, j, none⟩ = W.frozen? ⟨b, j, none⟩ := by
  have n := hI.node b nd hb
  have nC := hI.node bc nc hc
  have e : w1.heap[b]? = W.heap[b]? := hg.block b (heap_lt n.hd) (fun e => by
    obtain ⟨cur, hh⟩ := ownsRow_heap nC.ents e.symm
    rw [n.hd] at hh; simp at hh)
  exact ⟨World.cell?_of_block (w := W) e, World.frozen?_of_block (w := W) e⟩
theorem hdr_keptC {B : Nat} {W w1 : World} {σ : Sto} (hI : Inv B W σ) {bc : Nat} {nc : ND} (hc : σ bc = some nc) (hg : W.grownBy w1 nc.vc.ownBlock) {b : Nat} {nd : ND} (hb : σ b = some nd) (j : Nat) :
    w1.cell? ⟨b, j, none⟩ = W.cell? ⟨b, j, none⟩ ∧ w1.frozen? ⟨b, j, none⟩ = W.frozen? ⟨b, j, none⟩ := by
  have n := hI.node b nd hb
  have nC := hI.node bc nc hc
  have e : w1.heap[b]? = W.heap[b]? := hg.block b (heap_lt n.hd) (fun e => by
    obtain ⟨cur, hh⟩ := ownsRow_heap nC.kids e.symm
    rw [n.hd] at hh; simp at hh)
  exact ⟨World.cell?_of_block (w := W) e, World.frozen?_of_block (w := W) e⟩

/-- append(c.entries, x), the row of c; x lies in a new block; then 'c.entries = ..'. -/
theorem appE {B : Nat} {W : World} {σ : Sto} (hI : Inv B W σ) (hB : B ≤ W.heap.size) {bc : Nat} {nc : ND} (hc : σ bc = some nc) (x : Ent) (hsum : nc.es.length ≤ 90) :
    ∃ g cap w1, (Builtin.append_ #[61, 61] 61 #[nc.ve, .slice (some ⟨W.heap.size, 0, none⟩) 1 1]).run Try.prog (W.alloc (.cells #[.int .u64 x.k, .int .u64 x.c, .int .u64 x.s, .nilIface] 64)) = .ok (.slice (some ⟨g, 0, none⟩) (nc.es.length + 1) cap) w1 ∧
      w1.ownsRow B 64 4 (.slice (some ⟨g, 0, none⟩) (nc.es.length + 1) cap) (nc.es.length + 1) (entsCells (nc.es ++ [x])) ∧ (W.alloc (.cells #[.int .u64 x.k, .int .u64 x.c, .int .u64 x.s, .nilIface] 64)).grownBy w1 nc.ve.ownBlock ∧ (nc.ve.ownBlock = some g ∨ g = W.heap.size + 1) := by
  obtain ⟨i0, hi0, hz0, hz1, hz2⟩ := info_parts infoE
  have hIa := hI.alloc (.cells #[.int .u64 x.k, .int .u64 x.c, .int .u64 x.s, .nilIface] 64)
  obtain ⟨g1, cap1, w1, hr1, hown1, hgr1, hg1⟩ := run_append_row (P := Try.prog) (W.alloc (.cells #[.int .u64 x.k, .int .u64 x.c, .int .u64 x.s, .nilIface] 64)) B 61 61 64 i0 _ 4 40 Try.underlying61 hi0 hz0 hz1 hz2 (by rfl) (by decide) nc.ve nc.es.length (entsCells nc.es) (hIa.node bc nc hc).ents ⟨W.heap.size, 0, none⟩ 1 1 (entCells x) (by rfl) (ent_new W x 64) (entCells_oneCell x) (by unfold maxLen; omega) (by omega) (by simp; omega) (by omega)
  refine ⟨g1, cap1, w1, hr1, ?_, hgr1, ?_⟩
  · rw [entsCells_append, entsCells_one]; exact hown1
  · rcases hg1 with h | h
    · exact .inl h
    · exact .inr (by simpa using h)

/-- 'c.entries = append(append(c.entries, x), right.entries...)'. -/
theorem mergeE {B : Nat} {W : World} {σ : Sto} (hI : Inv B W σ) (hB : B ≤ W.heap.size) {bc br : Nat} {nc nr : ND} (hc : σ bc = some nc) (hr : σ br = some nr) (hcr : bc ≠ br) (x : Ent) {gr m capr : Nat} (hvr : nr.ve = .slice (some ⟨gr, 0, none⟩) m capr) (hm0 : 0 < m) (hsum : nc.es.length + nr.es.length ≤ 90) :
    ∃ g1 cap1 w1 g2 cap2 w2, (Builtin.append_ #[61, 61] 61 #[nc.ve, .slice (some ⟨W.heap.size, 0, none⟩) 1 1]).run Try.prog (W.alloc (.cells #[.int .u64 x.k, .int .u64 x.c, .int .u64 x.s, .nilIface] 64)) = .ok (.slice (some ⟨g1, 0, none⟩) (nc.es.length + 1) cap1) w1 ∧
      (Builtin.append_ #[61, 61] 61 #[.slice (some ⟨g1, 0, none⟩) (nc.es.length + 1) cap1, .slice (some ⟨gr, 0, none⟩) m capr]).run Try.prog w1 = .ok (.slice (some ⟨g2, 0, none⟩) (nc.es.length + 1 + m) cap2) w2 ∧
      (∀ b nd j, σ b = some nd → w1.cell? ⟨b, j, none⟩ = W.cell? ⟨b, j, none⟩ ∧ w1.frozen? ⟨b, j, none⟩ = W.frozen? ⟨b, j, none⟩ ∧ w2.cell? ⟨b, j, none⟩ = W.cell? ⟨b, j, none⟩ ∧ w2.frozen? ⟨b, j, none⟩ = W.frozen? ⟨b, j, none⟩) ∧
      Inv B (w2.setCell ⟨bc, 1, none⟩ (.slice (some ⟨g2, 0, none⟩) (nc.es.length + 1 + m) cap2)) (upd σ bc { nc with ve := .slice (some ⟨g2, 0, none⟩) (nc.es.length + 1 + m) cap2, es := nc.es ++ x :: nr.es }) ∧
      Kp B W (w2.setCell ⟨bc, 1, none⟩ (.slice (some ⟨g2, 0, none⟩) (nc.es.length + 1 + m) cap2)) := by
  obtain ⟨Wa, hWa⟩ : ∃ Wa, Wa = W.alloc (.cells #[.int .u64 x.k, .int .u64 x.c, .int .u64 x.s, .nilIface] 64) := ⟨_, rfl⟩
  have hIa : Inv B Wa σ := by rw [hWa]; exact hI.alloc _
  have hBa : B ≤ Wa.heap.size := by rw [hWa]; simp; omega
  have nR := hIa.node br nr hr
  have hm : m = nr.es.length := by
    obtain ⟨a, c, hs⟩ := ownsRow_shape nR.ents
    rw [hvr] at hs; cases hs; rfl
  obtain ⟨g1, cap1, w1, hr1, hown1, hgr1, hg1⟩ := appE hI hB hc x (by omega)
  rw [← hWa] at hr1 hgr1
  have hszA : Wa.heap.size = W.heap.size + 1 := by rw [hWa]; simp
  obtain ⟨i0, hi0, hz0, hz1, hz2⟩ := info_parts infoE
  have hsrc2 : ∀ j u, (entsCells nr.es)[j]? = some u → w1.cell? ((⟨gr, 0, none⟩ : Addr).add j) = some u := fun j u hu => by
    have hc0 := nR.ents.cells (show nr.ve.ownBlock = some gr by rw [hvr]; rfl) j u hu
    refine hgr1.cell hc0 (fun e => ?_)
    rw [Addr.add_lit] at e
    exact hcr (hIa.inje bc br nc nr gr hc hr e.symm (by rw [hvr]; rfl))
  obtain ⟨g2, cap2, w2, hr2, hown2, hgr2, hg2⟩ := run_append_row (P := Try.prog) w1 B 61 61 64 i0 _ 4 40 Try.underlying61 hi0 hz0 hz1 hz2 (by rfl) (by decide) (.slice (some ⟨g1, 0, none⟩) (nc.es.length + 1) cap1) (nc.es.length + 1) _ hown1 ⟨gr, 0, none⟩ m capr (entsCells nr.es) (by rw [entsCells_length, hm]) hsrc2 (entsCells_oneCell _) (by unfold maxLen; omega) (by omega) (Nat.le_trans hBa hgr1.size) (by omega)
  have hl1 : (nc.es ++ x :: nr.es).length = nc.es.length + 1 + m := by simp; omega
  have hcells1 : entsCells (nc.es ++ [x]) ++ entsCells nr.es = entsCells (nc.es ++ x :: nr.es) := by rw [← entsCells_append]; simp
  rw [hcells1] at hown2
  have hgr12 := grownBy_two (g := g1) hgr1 hgr2 (by rcases hg1 with h | h; exact .inl h; exact .inr (by omega))
  have hblk : ∀ g, (Value.slice (some ⟨g2, 0, none⟩) (nc.es.length + 1 + m) cap2).ownBlock = some g → nc.ve.ownBlock = some g ∨ Wa.heap.size ≤ g := by
    intro g hg
    simp [Value.ownBlock] at hg
    subst hg
    have hs1 := hgr1.size
    rcases hg2 with h | h
    · simp [Value.ownBlock] at h
      subst h
      rcases hg1 with h | h
      · exact .inl h
      · exact .inr (by omega)
    · exact .inr (by omega)
  obtain ⟨hI1, hK1⟩ := hIa.setEnts (es := nc.es ++ x :: nr.es) hc hBa hgr12 (by rw [hl1]; exact hown2) (by omega) hblk
  refine ⟨g1, cap1, w1, g2, cap2, w2, hWa ▸ hr1, hr2, fun b nd j hb => ?_, hI1, (show Kp B W Wa by rw [hWa]; exact Kp.alloc hB _).trans hK1⟩
  have h1 := hdr_keptE hIa hc hgr1 hb j
  have h2 := hdr_keptE hIa hc hgr12 hb j
  have n := hI.node b nd hb
  have e : Wa.heap[b]? = W.heap[b]? := by rw [hWa]; exact Below.heap_alloc W _ b (heap_lt n.hd)
  have e1 := World.cell?_of_block (w := W) (w' := Wa) (a := ⟨b, j, none⟩) e
  have e2 := World.frozen?_of_block (w := W) (w' := Wa) (a := ⟨b, j, none⟩) e
  exact ⟨h1.1.trans e1, h1.2.trans e2, h2.1.trans e1, h2.2.trans e2⟩

/-- 'c.children = append(c.children, right.children...)'. -/
theorem mergeC {B : Nat} {W : World} {σ : Sto} (hI : Inv B W σ) (hB : B ≤ W.heap.size) {bc br : Nat} {nc nr : ND} (hc : σ bc = some nc) (hr : σ br = some nr) {gr m capr : Nat} (hvr : nr.vc = .slice (some ⟨gr, 0, none⟩) m capr) (hm0 : 0 < m) (hsum : nc.cs.length + nr.cs.length ≤ 90) :
    ∃ g cap w1, (Builtin.append_ #[65, 65] 65 #[nc.vc, .slice (some ⟨gr, 0, none⟩) m capr]).run Try.prog W = .ok (.slice (some ⟨g, 0, none⟩) (nc.cs.length + m) cap) w1 ∧
      (∀ b nd j, σ b = some nd → w1.cell? ⟨b, j, none⟩ = W.cell? ⟨b, j, none⟩ ∧ w1.frozen? ⟨b, j, none⟩ = W.frozen? ⟨b, j, none⟩) ∧
      Inv B (w1.setCell ⟨bc, 2, none⟩ (.slice (some ⟨g, 0, none⟩) (nc.cs.length + m) cap)) (upd σ bc { nc with vc := .slice (some ⟨g, 0, none⟩) (nc.cs.length + m) cap, cs := nc.cs ++ nr.cs }) ∧
      Kp B W (w1.setCell ⟨bc, 2, none⟩ (.slice (some ⟨g, 0, none⟩) (nc.cs.length + m) cap)) := by
  have nR := hI.node br nr hr
  have hm : m = nr.cs.length := by
    obtain ⟨a, c, hs⟩ := ownsRow_shape nR.kids
    rw [hvr] at hs; cases hs; rfl
  obtain ⟨i0, hi0, hz0, hz1, hz2⟩ := info_parts infoC
  have hsrc2 : ∀ j u, (ptrs nr.cs)[j]? = some u → W.cell? ((⟨gr, 0, none⟩ : Addr).add j) = some u := fun j u hu => nR.kids.cells (show nr.vc.ownBlock = some gr by rw [hvr]; rfl) j u hu
  obtain ⟨g2, cap2, w2, hr2, hown2, hgr2, hg2⟩ := run_append_row (P := Try.prog) W B 65 65 29 i0 _ 1 8 Try.underlying65 hi0 hz0 hz1 hz2 (by rfl) (by decide) nc.vc nc.cs.length _ (hI.node bc nc hc).kids ⟨gr, 0, none⟩ m capr (ptrs nr.cs) (by rw [ptrs_length, hm]; omega) hsrc2 (ptrs_oneCell _) (by unfold maxLen; omega) (by omega) hB (by omega)
  have hl1 : (nc.cs ++ nr.cs).length = nc.cs.length + m := by simp; omega
  rw [← ptrs_append] at hown2
  obtain ⟨hI1, hK1⟩ := hI.setKids (cs := nc.cs ++ nr.cs) hc hB hgr2 (by rw [hl1]; exact hown2) (by intro e; rw [e] at hl1; simp at hl1; omega) (by omega) (fun g hg => by
    simp [Value.ownBlock] at hg
    subst hg
    rcases hg2 with h | h
    · exact .inl h
    · exact .inr (by omega))
  exact ⟨g2, cap2, w2, hr2, fun b nd j hb => hdr_keptC hI hc hgr2 hb j, hI1, hK1⟩

/-- 'c.children = append(c.children, moved)': moved lies in a new block. -/
theorem appC {B : Nat} {W : World} {σ : Sto} (hI : Inv B W σ) (hB : B ≤ W.heap.size) {bc : Nat} {nc : ND} (hc : σ bc = some nc) (x : Nat) (hsum : nc.cs.length ≤ 90) :
    ∃ g cap w1, (Builtin.append_ #[65, 65] 65 #[nc.vc, .slice (some ⟨W.heap.size, 0, none⟩) 1 1]).run Try.prog (W.alloc (.cells #[.pointer (some ⟨x, 0, none⟩)] 29)) = .ok (.slice (some ⟨g, 0, none⟩) (nc.cs.length + 1) cap) w1 ∧
      (∀ b nd j, σ b = some nd → w1.cell? ⟨b, j, none⟩ = W.cell? ⟨b, j, none⟩ ∧ w1.frozen? ⟨b, j, none⟩ = W.frozen? ⟨b, j, none⟩) ∧
      Inv B (w1.setCell ⟨bc, 2, none⟩ (.slice (some ⟨g, 0, none⟩) (nc.cs.length + 1) cap)) (upd σ bc { nc with vc := .slice (some ⟨g, 0, none⟩) (nc.cs.length + 1) cap, cs := nc.cs ++ [x] }) ∧
      Kp B W (w1.setCell ⟨bc, 2, none⟩ (.slice (some ⟨g, 0, none⟩) (nc.cs.length + 1) cap)) := by
  obtain ⟨Wa, hWa⟩ : ∃ Wa, Wa = W.alloc (.cells #[.pointer (some ⟨x, 0, none⟩)] 29) := ⟨_, rfl⟩
  have hIa : Inv B Wa σ := by rw [hWa]; exact hI.alloc _
  have hBa : B ≤ Wa.heap.size := by rw [hWa]; simp; omega
  obtain ⟨i0, hi0, hz0, hz1, hz2⟩ := info_parts infoC
  have hsrc : ∀ j u, ([ptr x] : List Value)[j]? = some u → Wa.cell? ((⟨W.heap.size, 0, none⟩ : Addr).add j) = some u := fun j u hu => by
    rw [hWa]
    match j, hu with
    | 0, hu => simp [ptr] at hu; subst hu; simp [Addr.add]
    | n + 1, hu => simp at hu
  obtain ⟨g2, cap2, w2, hr2, hown2, hgr2, hg2⟩ := run_append_row (P := Try.prog) Wa B 65 65 29 i0 _ 1 8 Try.underlying65 hi0 hz0 hz1 hz2 (by rfl) (by decide) nc.vc nc.cs.length _ (hIa.node bc nc hc).kids ⟨W.heap.size, 0, none⟩ 1 1 [ptr x] (by rfl) hsrc (by intro u hu; simp [ptr] at hu; subst hu; rfl) (by unfold maxLen; omega) (by omega) hBa (by omega)
  have hl1 : (nc.cs ++ [x]).length = nc.cs.length + 1 := by simp
  have hpt : ptrs nc.cs ++ [ptr x] = ptrs (nc.cs ++ [x]) := by simp [ptrs]
  rw [hpt] at hown2
  obtain ⟨hI1, hK1⟩ := hIa.setKids (cs := nc.cs ++ [x]) hc hBa hgr2 (by rw [hl1]; exact hown2) (by simp) (by omega) (fun g hg => by
    simp [Value.ownBlock] at hg
    subst hg
    rcases hg2 with h | h
    · exact .inl h
    · exact .inr (by omega))
  refine ⟨g2, cap2, w2, hWa ▸ hr2, fun b nd j hb => ?_, hI1, (show Kp B W Wa by rw [hWa]; exact Kp.alloc hB _).trans hK1⟩
  have h1 := hdr_keptC hIa hc hgr2 hb j
  have n := hI.node b nd hb
  have e : Wa.heap[b]? = W.heap[b]? := by rw [hWa]; exact Below.heap_alloc W _ b (heap_lt n.hd)
  exact ⟨h1.1.trans (World.cell?_of_block (w := W) (w' := Wa) (a := ⟨b, j, none⟩) e), h1.2.trans (World.frozen?_of_block (w := W) (w' := Wa) (a := ⟨b, j, none⟩) e)⟩

theorem entsCells_erase (es : List Ent) (i : Nat) : (entsCells es).take (i * 4) ++ (entsCells es).drop ((i + 1) * 4) = entsCells (es.take i ++ es.drop (i + 1)) := by
  rw [entsCells_take, entsCells_drop, entsCells_append]
theorem ptrs_erase (cs : List Nat) (i : Nat) : (ptrs cs).take (i * 1) ++ (ptrs cs).drop ((i + 1) * 1) = ptrs (cs.take i ++ cs.drop (i + 1)) := by
  simp [ptrs]
end Go.Proofs.Qxb6613550a
