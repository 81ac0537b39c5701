/-
  THE STORE OF NODES: which blocks hold which node; nothing of the walk.
-/
import Derived.Test.Qxb6613550aRowBase
namespace Go.Proofs.Qxb6613550a
open Go.RowKit

/-- An entry: her key, her session's client and sequence number (no answer is kept on this road). -/
structure Ent where
  k : Int
  c : Int
  s : Int

def entCells (e : Ent) : List Value := [.int .u64 e.k, .int .u64 e.c, .int .u64 e.s, .nilIface]
def entVal (e : Ent) : Value := .agg #[.int .u64 e.k, .int .u64 e.c, .int .u64 e.s, .nilIface]
def entsCells (es : List Ent) : List Value := es.flatMap entCells
def ptr (b : Nat) : Value := .pointer (some ⟨b, 0, none⟩)
def ptrs (cs : List Nat) : List Value := cs.map ptr

theorem entsCells_length (es : List Ent) : (entsCells es).length = es.length * 4 := by
  induction es with
  | nil => rfl
  | cons e es ih => simp only [entsCells, List.flatMap_cons, List.length_append] at ih ⊢; rw [ih]; simp [entCells]; omega
theorem entsCells_append (a b : List Ent) : entsCells (a ++ b) = entsCells a ++ entsCells b := by simp [entsCells]
theorem entsCells_one (e : Ent) : entsCells [e] = entCells e := by simp [entsCells]
theorem entsCells_take (es : List Ent) (i : Nat) : (entsCells es).take (i * 4) = entsCells (es.take i) := by
  rcases Nat.le_total i es.length with h | h
  · conv => lhs; rw [← List.take_append_drop i es, entsCells_append]
    rw [List.take_append_of_le_length (by rw [entsCells_length, List.length_take]; omega), List.take_of_length_le (by rw [entsCells_length, List.length_take]; omega)]
  · rw [List.take_of_length_le h, List.take_of_length_le (by rw [entsCells_length]; omega)]
theorem entsCells_drop (es : List Ent) (i : Nat) : (entsCells es).drop (i * 4) = entsCells (es.drop i) := by
  rcases Nat.le_total i es.length with h | h
  · conv => lhs; rw [← List.take_append_drop i es, entsCells_append]
    rw [List.drop_append_of_le_length (by rw [entsCells_length, List.length_take]; omega), List.drop_of_length_le (by rw [entsCells_length, List.length_take]; omega), List.nil_append]
  · rw [List.drop_of_length_le h, List.drop_of_length_le (by rw [entsCells_length]; omega)]; rfl
theorem entsCells_get (es : List Ent) (i j : Nat) (hi : i < es.length) (hj : j < 4) : (entsCells es)[i * 4 + j]? = (entCells es[i])[j]? := by
  have h := entsCells_drop es i
  rw [List.drop_eq_getElem_cons hi] at h
  have h2 : entsCells (es[i] :: es.drop (i + 1)) = entCells es[i] ++ entsCells (es.drop (i + 1)) := rfl
  rw [h2] at h
  have := congrArg (fun l => l[j]?) h
  simp only [List.getElem?_drop] at this
  rw [this, List.getElem?_append_left (by simp [entCells]; omega)]
theorem entCells_oneCell (e : Ent) : ∀ u ∈ entCells e, u.oneCell' = true := by
  intro u hu; simp [entCells] at hu; rcases hu with rfl | rfl | rfl | rfl <;> rfl
theorem entsCells_oneCell (es : List Ent) : ∀ u ∈ entsCells es, u.oneCell' = true := by
  intro u hu
  obtain ⟨e, _, he⟩ := List.mem_flatMap.1 hu
  exact entCells_oneCell e u he
theorem ptrs_length (cs : List Nat) : (ptrs cs).length = cs.length := by simp [ptrs]
theorem ptrs_append (a b : List Nat) : ptrs (a ++ b) = ptrs a ++ ptrs b := by simp [ptrs]
theorem ptrs_oneCell (cs : List Nat) : ∀ u ∈ ptrs cs, u.oneCell' = true := by
  intro u hu; simp [ptrs] at hu; obtain ⟨b, _, rfl⟩ := hu; rfl

/-- A node: the slice of her entries, the slice of her children, what they hold, her count. -/
structure ND where
  ve : Value
  vc : Value
  es : List Ent
  cs : List Nat
  keys : Int

def hdr (nd : ND) : Array Value := #[.int .u64 0, nd.ve, nd.vc, .int .i64 nd.keys]

structure NodeAt (B : Nat) (w : World) (b : Nat) (nd : ND) : Prop where
  lo : B ≤ b
  hd : w.heap[b]? = some (.cells (hdr nd) 67 (0, 0))
  ents : w.ownsRow B 64 4 nd.ve nd.es.length (entsCells nd.es)
  kids : w.ownsRow B 29 1 nd.vc nd.cs.length (ptrs nd.cs)
  leaf : nd.cs = [] → nd.vc = .slice none 0 0
  fewE : nd.es.length ≤ 100
  fewC : nd.cs.length ≤ 100

abbrev Sto := Nat → Option ND

structure Inv (B : Nat) (w : World) (σ : Sto) : Prop where
  node : ∀ b nd, σ b = some nd → NodeAt B w b nd
  inje : ∀ b b' nd nd' g, σ b = some nd → σ b' = some nd' → nd.ve.ownBlock = some g → nd'.ve.ownBlock = some g → b = b'
  injc : ∀ b b' nd nd' g, σ b = some nd → σ b' = some nd' → nd.vc.ownBlock = some g → nd'.vc.ownBlock = some g → b = b'

def upd (σ : Sto) (b : Nat) (nd : ND) : Sto := fun x => if x = b then some nd else σ x
theorem upd_same (σ : Sto) (b : Nat) (nd : ND) : upd σ b nd b = some nd := by simp [upd]
theorem upd_other (σ : Sto) (b x : Nat) (nd : ND) (h : x ≠ b) : upd σ b nd x = σ x := by simp [upd, h]
theorem upd_upd (σ : Sto) (b : Nat) (nd nd' : ND) : upd (upd σ b nd) b nd' = upd σ b nd' := by funext x; simp only [upd]; split <;> rfl

theorem heap_lt {w : World} {k : Nat} {o : Obj} (h : w.heap[k]? = some o) : k < w.heap.size := (Array.getElem?_eq_some_iff.1 h).1

/-- The block of an owned row. -/
theorem ownsRow_heap {w : World} {B : Nat} {e : TypeId} {sz : Nat} {v : Value} {n : Nat} {xs : List Value} (h : w.ownsRow B e sz v n xs) {g : Nat} (hg : v.ownBlock = some g) : ∃ cur, w.heap[g]? = some (.cells cur e (0, 0)) := by
  rcases h.2 with ⟨rfl, _⟩ | ⟨g', cap, cur, rfl, _, hh, _⟩
  · simp [Value.ownBlock] at hg
  · simp [Value.ownBlock] at hg; subst hg; exact ⟨cur, hh⟩
theorem ownsRow_same {w w' : World} {B : Nat} {e : TypeId} {sz : Nat} {v : Value} {n : Nat} {xs : List Value} (h : w.ownsRow B e sz v n xs) (hk : ∀ g, v.ownBlock = some g → w'.heap[g]? = w.heap[g]?) : w'.ownsRow B e sz v n xs := by
  refine ⟨h.1, ?_⟩
  rcases h.2 with hn | ⟨g, cap, cur, rfl, hb, hgg, rest⟩
  · exact .inl hn
  · exact .inr ⟨g, cap, cur, rfl, hb, by rw [hk g rfl]; exact hgg, rest⟩

/-- A node is kept where her three blocks are. -/
theorem NodeAt.keep {B : Nat} {w w' : World} {b : Nat} {nd : ND} (h : NodeAt B w b nd) (h0 : w'.heap[b]? = w.heap[b]?) (he : ∀ g, nd.ve.ownBlock = some g → w'.heap[g]? = w.heap[g]?) (hc : ∀ g, nd.vc.ownBlock = some g → w'.heap[g]? = w.heap[g]?) : NodeAt B w' b nd :=
  ⟨h.lo, by rw [h0]; exact h.hd, ownsRow_same h.ents he, ownsRow_same h.kids hc, h.leaf, h.fewE, h.fewC⟩

theorem Inv.lt {B : Nat} {w : World} {σ : Sto} (h : Inv B w σ) {b : Nat} {nd : ND} (hb : σ b = some nd) : b < w.heap.size := heap_lt (h.node b nd hb).hd

/-- Nothing that was there has turned: all nodes are kept. -/
theorem Inv.same {B : Nat} {w w' : World} {σ : Sto} (h : Inv B w σ) (hk : ∀ k, k < w.heap.size → w'.heap[k]? = w.heap[k]?) : Inv B w' σ := by
  refine ⟨fun b nd hb => ?_, h.inje, h.injc⟩
  have n := h.node b nd hb
  exact n.keep (hk b (heap_lt n.hd)) (fun g hg => hk g (n.ents.lt g hg).2) (fun g hg => hk g (n.kids.lt g hg).2)
theorem Inv.below {B C : Nat} {w w' : World} {σ : Sto} (h : Inv B w σ) (hb : Below C w w') (hC : w.heap.size ≤ C) : Inv B w' σ :=
  h.same fun k hk => hb.block k (by omega)
theorem Inv.alloc {B : Nat} {w : World} {σ : Sto} (h : Inv B w σ) (o : Obj) : Inv B (w.alloc o) σ := h.same fun k hk => Below.heap_alloc w o k hk
theorem Inv.drewN {B : Nat} {w : World} {σ : Sto} (h : Inv B w σ) (n : Nat) : Inv B (w.drewN n) σ := h.same fun _ _ => rfl
theorem Inv.drew {B : Nat} {w : World} {σ : Sto} (h : Inv B w σ) : Inv B w.drew σ := h.same fun _ _ => rfl

/-- ONE NODE TURNED: her own three blocks, and new ones, may have changed. -/
theorem Inv.put {B : Nat} {w w' : World} {σ : Sto} (h : Inv B w σ) {b : Nat} {nd nd' : ND} (hb : σ b = some nd)
    (hk : ∀ k, k < w.heap.size → k ≠ b → nd.ve.ownBlock ≠ some k → nd.vc.ownBlock ≠ some k → w'.heap[k]? = w.heap[k]?)
    (hn : NodeAt B w' b nd') (he : ∀ g, nd'.ve.ownBlock = some g → nd.ve.ownBlock = some g ∨ w.heap.size ≤ g) (hc : ∀ g, nd'.vc.ownBlock = some g → nd.vc.ownBlock = some g ∨ w.heap.size ≤ g) :
    Inv B w' (upd σ b nd') := by
  have nb := h.node b nd hb
  have key : ∀ b' n', b' ≠ b → σ b' = some n' → NodeAt B w' b' n' := by
    intro b' n' hne hb'
    have n0 := h.node b' n' hb'
    have t1 : ∀ g, nd.ve.ownBlock = some g → g ≠ b' := fun g hg e => by
      obtain ⟨cur, hh⟩ := ownsRow_heap nb.ents hg
      rw [e, n0.hd] at hh; simp at hh
    have t2 : ∀ g, nd.vc.ownBlock = some g → g ≠ b' := fun g hg e => by
      obtain ⟨cur, hh⟩ := ownsRow_heap nb.kids hg
      rw [e, n0.hd] at hh; simp at hh
    refine n0.keep (hk b' (heap_lt n0.hd) hne (fun e => t1 _ e rfl) (fun e => t2 _ e rfl)) (fun g hg => ?_) (fun g hg => ?_)
    · obtain ⟨cur, hh⟩ := ownsRow_heap n0.ents hg
      refine hk g (heap_lt hh) (fun e => ?_) (fun e => hne (h.inje b' b n' nd g hb' hb hg e)) (fun e => ?_)
      · rw [e, nb.hd] at hh; simp at hh
      · obtain ⟨cur', hh'⟩ := ownsRow_heap nb.kids e
        rw [hh] at hh'; simp at hh'
    · obtain ⟨cur, hh⟩ := ownsRow_heap n0.kids hg
      refine hk g (heap_lt hh) (fun e => ?_) (fun e => ?_) (fun e => hne (h.injc b' b n' nd g hb' hb hg e))
      · rw [e, nb.hd] at hh; simp at hh
      · obtain ⟨cur', hh'⟩ := ownsRow_heap nb.ents e
        rw [hh] at hh'; simp at hh'
  have old : ∀ b' n' g, b' ≠ b → σ b' = some n' → (n'.ve.ownBlock = some g → nd'.ve.ownBlock = some g → False) ∧ (n'.vc.ownBlock = some g → nd'.vc.ownBlock = some g → False) := by
    intro b' n' g hne hb'
    have n0 := h.node b' n' hb'
    refine ⟨fun h1 h2 => ?_, fun h1 h2 => ?_⟩
    · rcases he g h2 with h3 | h3
      · exact hne (h.inje b' b n' nd g hb' hb h1 h3)
      · have := (n0.ents.lt g h1).2; omega
    · rcases hc g h2 with h3 | h3
      · exact hne (h.injc b' b n' nd g hb' hb h1 h3)
      · have := (n0.kids.lt g h1).2; omega
  refine ⟨fun x nx hx => ?_, fun x y nx ny g hx hy h1 h2 => ?_, fun x y nx ny g hx hy h1 h2 => ?_⟩
  · by_cases e : x = b
    · subst e; rw [upd_same] at hx; cases hx; exact hn
    · rw [upd_other _ _ _ _ e] at hx; exact key x nx e hx
  · by_cases ex : x = b
    · by_cases ey : y = b
      · rw [ex, ey]
      · rw [ex, upd_same] at hx; cases hx
        rw [upd_other _ _ _ _ ey] at hy
        exact ((old y ny g ey hy).1 h2 h1).elim
    · rw [upd_other _ _ _ _ ex] at hx
      by_cases ey : y = b
      · rw [ey, upd_same] at hy; cases hy
        exact ((old x nx g ex hx).1 h1 h2).elim
      · rw [upd_other _ _ _ _ ey] at hy
        exact h.inje x y nx ny g hx hy h1 h2
  · by_cases ex : x = b
    · by_cases ey : y = b
      · rw [ex, ey]
      · rw [ex, upd_same] at hx; cases hx
        rw [upd_other _ _ _ _ ey] at hy
        exact ((old y ny g ey hy).2 h2 h1).elim
    · rw [upd_other _ _ _ _ ex] at hx
      by_cases ey : y = b
      · rw [ey, upd_same] at hy; cases hy
        exact ((old x nx g ex hx).2 h1 h2).elim
      · rw [upd_other _ _ _ _ ey] at hy
        exact h.injc x y nx ny g hx hy h1 h2

/-- A NEW NODE: nothing that was there has turned. -/
theorem Inv.new {B : Nat} {w w' : World} {σ : Sto} (h : Inv B w σ) {b : Nat} {nd' : ND} (hk : ∀ k, k < w.heap.size → w'.heap[k]? = w.heap[k]?) (hbn : w.heap.size ≤ b)
    (hn : NodeAt B w' b nd') (he : ∀ g, nd'.ve.ownBlock = some g → w.heap.size ≤ g) (hc : ∀ g, nd'.vc.ownBlock = some g → w.heap.size ≤ g) : Inv B w' (upd σ b nd') := by
  have h' := h.same hk
  refine ⟨fun x nx hx => ?_, fun x y nx ny g hx hy h1 h2 => ?_, fun x y nx ny g hx hy h1 h2 => ?_⟩
  · by_cases e : x = b
    · subst e; rw [upd_same] at hx; cases hx; exact hn
    · rw [upd_other _ _ _ _ e] at hx; exact h'.node x nx hx
  · by_cases ex : x = b
    · by_cases ey : y = b
      · rw [ex, ey]
      · rw [ex, upd_same] at hx; cases hx
        rw [upd_other _ _ _ _ ey] at hy
        have := ((h.node y ny hy).ents.lt g h2).2; have := he g h1; omega
    · rw [upd_other _ _ _ _ ex] at hx
      by_cases ey : y = b
      · rw [ey, upd_same] at hy; cases hy
        have := ((h.node x nx hx).ents.lt g h1).2; have := he g h2; omega
      · rw [upd_other _ _ _ _ ey] at hy
        exact h.inje x y nx ny g hx hy h1 h2
  · by_cases ex : x = b
    · by_cases ey : y = b
      · rw [ex, ey]
      · rw [ex, upd_same] at hx; cases hx
        rw [upd_other _ _ _ _ ey] at hy
        have := ((h.node y ny hy).kids.lt g h2).2; have := hc g h1; omega
    · rw [upd_other _ _ _ _ ex] at hx
      by_cases ey : y = b
      · rw [ey, upd_same] at hy; cases hy
        have := ((h.node x nx hx).kids.lt g h1).2; have := hc g h2; omega
      · rw [upd_other _ _ _ _ ey] at hy
        exact h.injc x y nx ny g hx hy h1 h2
end Go.Proofs.Qxb6613550a
