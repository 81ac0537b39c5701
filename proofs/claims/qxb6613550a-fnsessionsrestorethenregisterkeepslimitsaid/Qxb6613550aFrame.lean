/-
  WHAT EACH STORE DOES TO THE STORE OF NODES, AND WHAT IT LEAVES ALONE.
-/
import Derived.Test.Qxb6613550aStore
namespace Go.Proofs.Qxb6613550a
open Go.RowKit

/-- Memory of another kind than nodes, rows of entries, rows of children. -/
def Oth (o : Obj) : Prop := ∀ cur t r, o = .cells cur t r → t ≠ 67 ∧ t ≠ 64 ∧ t ≠ 29

/-- What lay below B is as it was, and so is all memory of another kind. -/
structure Kp (B : Nat) (w w' : World) : Prop where
  bel : Below B w w'
  oth : ∀ (k : Nat) (o : Obj), w.heap[k]? = some o → Oth o → w'.heap[k]? = some o

theorem Kp.refl (B : Nat) (w : World) : Kp B w w := ⟨Below.refl _ _, fun _ _ h _ => h⟩
theorem Kp.trans {B : Nat} {a b c : World} (h : Kp B a b) (k : Kp B b c) : Kp B a c := ⟨h.bel.trans k.bel, fun i o hi ho => k.oth i o (h.oth i o hi ho) ho⟩
theorem Kp.of_below {B : Nat} {w w' : World} (h : Below w.heap.size w w') (hB : B ≤ w.heap.size) : Kp B w w' :=
  ⟨h.mono hB, fun k o hk _ => by rw [h.block k (heap_lt hk)]; exact hk⟩
theorem Kp.alloc {B : Nat} {w : World} (hB : B ≤ w.heap.size) (o : Obj) : Kp B w (w.alloc o) := Kp.of_below ((Below.refl _ _).alloc (Nat.le_refl _) o) hB
theorem Kp.drewN (B : Nat) (w : World) (n : Nat) : Kp B w (w.drewN n) := ⟨⟨rfl, rfl, rfl, Nat.le_refl _, fun _ _ => rfl⟩, fun _ _ h _ => h⟩
theorem Kp.drew (B : Nat) (w : World) : Kp B w w.drew := ⟨⟨rfl, rfl, rfl, Nat.le_refl _, fun _ _ => rfl⟩, fun _ _ h _ => h⟩
theorem Kp.cell {B : Nat} {w w' : World} (h : Kp B w w') {k : Nat} {cur : Array Value} {t : TypeId} {r : Nat × Nat} (hk : w.heap[k]? = some (.cells cur t r)) (ht : t ≠ 67 ∧ t ≠ 64 ∧ t ≠ 29) : w'.heap[k]? = some (.cells cur t r) :=
  h.oth k _ hk (fun _ _ _ e => by cases e; exact ht)
theorem Kp.size {B : Nat} {w w' : World} (h : Kp B w w') : w.heap.size ≤ w'.heap.size := h.bel.size

theorem heap_setCell_at {w : World} {b j : Nat} {cur : Array Value} {t : TypeId} {fr : Nat × Nat} (v : Value) (hb : w.heap[b]? = some (.cells cur t fr)) : (w.setCell ⟨b, j, none⟩ v).heap[b]? = some (.cells (cur.setIfInBounds j v) t fr) := by
  rw [setCell_eq_setRow w b j cur t fr v hb]
  exact setRow_heap w b cur _ t fr hb
theorem heap_setCell_not {w : World} {b j k : Nat} (v : Value) (h : k ≠ b) : (w.setCell ⟨b, j, none⟩ v).heap[k]? = w.heap[k]? := Below.heap_setCell w ⟨b, j, none⟩ v k h
theorem size_setCell (w : World) (a : Addr) (v : Value) : (w.setCell a v).heap.size = w.heap.size := by
  have := ((Below.refl 0 w).setCell (p := a) (Nat.zero_le _) v).size
  have h2 := World.size_setCell w a v
  exact h2

theorem Kp.setCell {B : Nat} {w : World} {b j : Nat} {cur : Array Value} {t : TypeId} {fr : Nat × Nat} (v : Value) (hb : w.heap[b]? = some (.cells cur t fr)) (hB : B ≤ b) (ht : t = 67 ∨ t = 64 ∨ t = 29) : Kp B w (w.setCell ⟨b, j, none⟩ v) :=
  ⟨(Below.refl _ _).setCell hB v, fun k o hk ho => by
    by_cases e : k = b
    · subst e; rw [hb] at hk; cases hk
      obtain ⟨h1, h2, h3⟩ := ho _ _ _ rfl
      rcases ht with h | h | h <;> contradiction
    · rw [heap_setCell_not v e]; exact hk⟩
theorem Kp.grown {B : Nat} {w w' : World} {row : Option Nat} (h : w.grownBy w' row) (hB : B ≤ w.heap.size) (hr : ∀ g, row = some g → B ≤ g ∧ ∃ cur t fr, w.heap[g]? = some (.cells cur t fr) ∧ (t = 67 ∨ t = 64 ∨ t = 29)) : Kp B w w' :=
  ⟨(Below.refl _ _).grown h hB (fun k hk => (hr k hk).1), fun k o hk ho => by
    rw [h.block k (heap_lt hk) (fun e => ?_)]; exact hk
    obtain ⟨_, cur, t, fr, hh, ht⟩ := hr k e.symm
    rw [hk] at hh; cases hh
    obtain ⟨h1, h2, h3⟩ := ho _ _ _ rfl
    rcases ht with h | h | h <;> contradiction⟩

/-- The cells of a node's block. -/
theorem NodeAt.cells {B : Nat} {w : World} {b : Nat} {nd : ND} (h : NodeAt B w b nd) : w.cell? ⟨b, 0, none⟩ = some (.int .u64 0) ∧ w.cell? ⟨b, 1, none⟩ = some nd.ve ∧ w.cell? ⟨b, 2, none⟩ = some nd.vc ∧ w.cell? ⟨b, 3, none⟩ = some (.int .i64 nd.keys) := by
  have c : ∀ j, w.cell? ⟨b, j, none⟩ = (hdr nd)[j]? := fun j => cell_of_row w b j _ 67 (0, 0) h.hd
  exact ⟨c 0, c 1, c 2, c 3⟩
theorem NodeAt.free {B : Nat} {w : World} {b : Nat} {nd : ND} (h : NodeAt B w b nd) (j : Nat) : w.frozen? ⟨b, j, none⟩ = false := by
  simp [World.frozen?, h.hd]

/-- 'n.entries = v': the row may have been written, or made anew, in between. -/
theorem Inv.setEnts {B : Nat} {w w1 : World} {σ : Sto} (h : Inv B w σ) {b : Nat} {nd : ND} (hb : σ b = some nd) (hB : B ≤ w.heap.size) (hg : w.grownBy w1 nd.ve.ownBlock) {ve : Value} {es : List Ent}
    (hown : w1.ownsRow B 64 4 ve es.length (entsCells es)) (hsm : es.length ≤ 100) (hblk : ∀ g, ve.ownBlock = some g → nd.ve.ownBlock = some g ∨ w.heap.size ≤ g) :
    Inv B (w1.setCell ⟨b, 1, none⟩ ve) (upd σ b { nd with ve := ve, es := es }) ∧ Kp B w (w1.setCell ⟨b, 1, none⟩ ve) := by
  have n := h.node b nd hb
  have nb : nd.ve.ownBlock ≠ some b := fun e => by
    obtain ⟨cur, hh⟩ := ownsRow_heap n.ents e
    rw [n.hd] at hh; simp at hh
  have hd1 : w1.heap[b]? = some (.cells (hdr nd) 67 (0, 0)) := by rw [hg.block b (heap_lt n.hd) (fun e => nb e.symm)]; exact n.hd
  have hvb : ∀ g, ve.ownBlock = some g → g ≠ b := fun g hg' e => by
    obtain ⟨cur, hh⟩ := ownsRow_heap hown hg'
    rw [e, hd1] at hh; simp at hh
  refine ⟨h.put hb (fun k hk h1 h2 h3 => ?_) ⟨n.lo, ?_, ownsRow_same hown (fun g hg' => heap_setCell_not _ (hvb g hg')), ownsRow_same n.kids (fun g hg' => ?_), n.leaf, hsm, n.fewC⟩ hblk (fun g hg' => .inl hg'), ?_⟩
  · rw [heap_setCell_not _ h1]; exact hg.block k hk (fun e => h2 e.symm)
  · rw [heap_setCell_at _ hd1]; rfl
  · obtain ⟨cur, hh⟩ := ownsRow_heap n.kids hg'
    have hne : g ≠ b := fun e => by rw [e, n.hd] at hh; simp at hh
    rw [heap_setCell_not _ hne]
    refine hg.block g (heap_lt hh) (fun e => ?_)
    obtain ⟨cur', hh'⟩ := ownsRow_heap n.ents e.symm
    rw [hh] at hh'; simp at hh'
  · refine (Kp.grown hg hB (fun g hg' => ?_)).trans (Kp.setCell _ hd1 n.lo (.inl rfl))
    obtain ⟨cur, hh⟩ := ownsRow_heap n.ents hg'
    exact ⟨(n.ents.lt g hg').1, cur, 64, (0, 0), hh, .inr (.inl rfl)⟩

/-- 'n.children = v'. -/
theorem Inv.setKids {B : Nat} {w w1 : World} {σ : Sto} (h : Inv B w σ) {b : Nat} {nd : ND} (hb : σ b = some nd) (hB : B ≤ w.heap.size) (hg : w.grownBy w1 nd.vc.ownBlock) {vc : Value} {cs : List Nat}
    (hown : w1.ownsRow B 29 1 vc cs.length (ptrs cs)) (hcs : cs ≠ []) (hsm : cs.length ≤ 100) (hblk : ∀ g, vc.ownBlock = some g → nd.vc.ownBlock = some g ∨ w.heap.size ≤ g) :
    Inv B (w1.setCell ⟨b, 2, none⟩ vc) (upd σ b { nd with vc := vc, cs := cs }) ∧ Kp B w (w1.setCell ⟨b, 2, none⟩ vc) := by
  have n := h.node b nd hb
  have nb : nd.vc.ownBlock ≠ some b := fun e => by
    obtain ⟨cur, hh⟩ := ownsRow_heap n.kids e
    rw [n.hd] at hh; simp at hh
  have hd1 : w1.heap[b]? = some (.cells (hdr nd) 67 (0, 0)) := by rw [hg.block b (heap_lt n.hd) (fun e => nb e.symm)]; exact n.hd
  have hvb : ∀ g, vc.ownBlock = some g → g ≠ b := fun g hg' e => by
    obtain ⟨cur, hh⟩ := ownsRow_heap hown hg'
    rw [e, hd1] at hh; simp at hh
  refine ⟨h.put hb (fun k hk h1 h2 h3 => ?_) ⟨n.lo, ?_, ownsRow_same n.ents (fun g hg' => ?_), ownsRow_same hown (fun g hg' => heap_setCell_not _ (hvb g hg')), fun e => absurd e hcs, n.fewE, hsm⟩ (fun g hg' => .inl hg') hblk, ?_⟩
  · rw [heap_setCell_not _ h1]; exact hg.block k hk (fun e => h3 e.symm)
  · rw [heap_setCell_at _ hd1]; rfl
  · obtain ⟨cur, hh⟩ := ownsRow_heap n.ents hg'
    have hne : g ≠ b := fun e => by rw [e, n.hd] at hh; simp at hh
    rw [heap_setCell_not _ hne]
    refine hg.block g (heap_lt hh) (fun e => ?_)
    obtain ⟨cur', hh'⟩ := ownsRow_heap n.kids e.symm
    rw [hh] at hh'; simp at hh'
  · refine (Kp.grown hg hB (fun g hg' => ?_)).trans (Kp.setCell _ hd1 n.lo (.inl rfl))
    obtain ⟨cur, hh⟩ := ownsRow_heap n.kids hg'
    exact ⟨(n.kids.lt g hg').1, cur, 29, (0, 0), hh, .inr (.inr rfl)⟩

/-- 'n.keys = k'. -/
theorem Inv.setKeys {B : Nat} {w : World} {σ : Sto} (h : Inv B w σ) {b : Nat} {nd : ND} (hb : σ b = some nd) (k : Int) :
    Inv B (w.setCell ⟨b, 3, none⟩ (.int .i64 k)) (upd σ b { nd with keys := k }) ∧ Kp B w (w.setCell ⟨b, 3, none⟩ (.int .i64 k)) := by
  have n := h.node b nd hb
  refine ⟨h.put hb (fun k hk h1 h2 h3 => heap_setCell_not _ h1) ⟨n.lo, ?_, ownsRow_same n.ents (fun g hg' => ?_), ownsRow_same n.kids (fun g hg' => ?_), n.leaf, n.fewE, n.fewC⟩ (fun g hg' => .inl hg') (fun g hg' => .inl hg'), Kp.setCell _ n.hd n.lo (.inl rfl)⟩
  · rw [heap_setCell_at _ n.hd]; rfl
  · obtain ⟨cur, hh⟩ := ownsRow_heap n.ents hg'
    exact heap_setCell_not _ (fun e => by rw [e, n.hd] at hh; simp at hh)
  · obtain ⟨cur, hh⟩ := ownsRow_heap n.kids hg'
    exact heap_setCell_not _ (fun e => by rw [e, n.hd] at hh; simp at hh)

/-- 'n.entries[i] = e': four cells of the row. -/
theorem Inv.setEntry {B : Nat} {w : World} {σ : Sto} (h : Inv B w σ) {b : Nat} {nd : ND} (hb : σ b = some nd) {g n cap i : Nat} (hve : nd.ve = .slice (some ⟨g, 0, none⟩) n cap) (hi : i < nd.es.length) (e : Ent) :
    Inv B ((((w.setCell ⟨g, i * 4, none⟩ (.int .u64 e.k)).setCell ⟨g, i * 4 + 1, none⟩ (.int .u64 e.c)).setCell ⟨g, i * 4 + 2, none⟩ (.int .u64 e.s)).setCell ⟨g, i * 4 + 3, none⟩ .nilIface) (upd σ b { nd with es := nd.es.set i e }) ∧
    Kp B w ((((w.setCell ⟨g, i * 4, none⟩ (.int .u64 e.k)).setCell ⟨g, i * 4 + 1, none⟩ (.int .u64 e.c)).setCell ⟨g, i * 4 + 2, none⟩ (.int .u64 e.s)).setCell ⟨g, i * 4 + 3, none⟩ .nilIface) := by
  have nn := h.node b nd hb
  have own0 := nn.ents
  have hshape := ownsRow_shape own0
  obtain ⟨a0, c0, hs0⟩ := hshape
  rw [hve] at hs0
  have hnl : n = nd.es.length := by cases hs0; rfl
  rw [hve, ← hnl] at own0
  obtain ⟨cur, hB, hh, hnc, hcm, hcs, ht⟩ := ownsRow_row own0
  have hgb : g ≠ b := fun e => by rw [e, nn.hd] at hh; simp at hh
  have h1 := heap_setCell_at (j := i * 4) (.int .u64 e.k) hh
  have h2 := heap_setCell_at (j := i * 4 + 1) (.int .u64 e.c) h1
  have h3 := heap_setCell_at (j := i * 4 + 2) (.int .u64 e.s) h2
  have h4 := heap_setCell_at (j := i * 4 + 3) .nilIface h3
  have hne : ∀ k, k ≠ g → ((((w.setCell ⟨g, i * 4, none⟩ (.int .u64 e.k)).setCell ⟨g, i * 4 + 1, none⟩ (.int .u64 e.c)).setCell ⟨g, i * 4 + 2, none⟩ (.int .u64 e.s)).setCell ⟨g, i * 4 + 3, none⟩ .nilIface).heap[k]? = w.heap[k]? := fun k hk => by
    rw [heap_setCell_not _ hk, heap_setCell_not _ hk, heap_setCell_not _ hk, heap_setCell_not _ hk]
  refine ⟨h.put hb (fun k hk h1 h2 h3 => hne k (fun e => h2 (by rw [hve, e]; rfl))) ⟨nn.lo, ?_, ?_, ownsRow_same nn.kids (fun k hk => hne k (fun e => ?_)), nn.leaf, ?_, nn.fewC⟩ (fun g hg' => .inl hg') (fun g hg' => .inl hg'), ?_⟩
  · rw [hne b (fun e => hgb e.symm)]; exact nn.hd
  · show World.ownsRow _ B 64 4 nd.ve (nd.es.set i e).length (entsCells (nd.es.set i e))
    rw [List.length_set, hve, ← hnl]
    refine ownsRow_mk _ hB h4 hnc hcm (by simpa using hcs) ?_
    have hset : entsCells (nd.es.set i e) = entsCells (nd.es.take i) ++ entCells e ++ entsCells (nd.es.drop (i + 1)) := by
      rw [List.set_eq_take_append_cons_drop, if_pos hi, entsCells_append]
      rw [show entsCells (e :: nd.es.drop (i + 1)) = entCells e ++ entsCells (nd.es.drop (i + 1)) from rfl, List.append_assoc]
    have hpre : entsCells (nd.es.take i) = cur.toList.take (i * 4) := by
      rw [← entsCells_take, ← ht, List.take_take, Nat.min_eq_left (by omega)]
    have hpost : entsCells (nd.es.drop (i + 1)) = (cur.toList.take (n * 4)).drop ((i + 1) * 4) := by rw [← entsCells_drop, ← ht]
    rw [hset, hpre, hpost]
    simp only [Array.toList_setIfInBounds]
    have hl : i * 4 + 4 ≤ (cur.toList.take (n * 4)).length := by rw [List.length_take, Array.length_toList]; omega
    apply List.ext_getElem?
    intro j
    simp only [List.getElem?_take, List.getElem?_set, List.getElem?_append, List.length_append, List.length_take, Array.length_toList, List.length_set, entCells, List.getElem?_drop]
    by_cases hj : j < n * 4
    · by_cases ja : j < i * 4
      · simp [hj, ja, show ¬ i * 4 + 3 = j by omega, show ¬ i * 4 + 2 = j by omega, show ¬ i * 4 + 1 = j by omega, show ¬ i * 4 = j by omega, show j < i * 4 + 4 by omega, show j < cur.size by omega, show i * 4 ≤ cur.size by omega]
      · by_cases jb : j < i * 4 + 4
        · have : j = i * 4 ∨ j = i * 4 + 1 ∨ j = i * 4 + 2 ∨ j = i * 4 + 3 := by omega
          have hc : i * 4 + 3 < cur.size := by omega
          rcases this with rfl | rfl | rfl | rfl
          · simp [hj, show i * 4 < cur.size by omega, show min (i * 4) cur.size = i * 4 by omega]
          · simp [hj, show ¬ i * 4 + 1 < i * 4 by omega, show i * 4 + 1 < cur.size by omega, show min (i * 4) cur.size = i * 4 by omega]
          · simp [hj, show ¬ i * 4 + 2 < i * 4 by omega, show i * 4 + 2 < cur.size by omega, show min (i * 4) cur.size = i * 4 by omega]
          · simp [hj, hc, show ¬ i * 4 + 3 < i * 4 by omega, show min (i * 4) cur.size = i * 4 by omega]
        · simp [hj, show ¬ i * 4 + 3 = j by omega, show ¬ i * 4 + 2 = j by omega, show ¬ i * 4 + 1 = j by omega, show ¬ i * 4 = j by omega, show min (i * 4) cur.size = i * 4 by omega, jb, show (i + 1) * 4 + (j - (i * 4 + 4)) = j by omega]
    · simp [hj, show min (i * 4) cur.size = i * 4 by omega, show ¬ j < i * 4 + 4 by omega, show (i + 1) * 4 + (j - (i * 4 + 4)) = j by omega]
  · obtain ⟨cur', hh'⟩ := ownsRow_heap nn.kids hk
    rw [e, hh] at hh'; simp at hh'
  · show (nd.es.set i e).length ≤ 100
    rw [List.length_set]; exact nn.fewE
  · exact ((Kp.setCell _ hh hB (.inr (.inl rfl))).trans (Kp.setCell _ h1 hB (.inr (.inl rfl)))).trans ((Kp.setCell _ h2 hB (.inr (.inl rfl))).trans (Kp.setCell _ h3 hB (.inr (.inl rfl))))
end Go.Proofs.Qxb6613550a
