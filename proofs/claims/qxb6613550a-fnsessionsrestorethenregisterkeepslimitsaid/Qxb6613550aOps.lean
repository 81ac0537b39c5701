/-
  THE CALLS ON ROWS, AT THE STORE OF NODES: what 'n.entries = f(n.entries, ..)' does to the store.
-/
import Derived.Test.Qxb6613550aSteps
import Derived.Test.Qxb6613550aRecount
import Derived.Test.Qxb6613550aRowCut
import Derived.Test.Qxb6613550aRowSdel
import Derived.Test.Qxb6613550aRowClone
import Derived.Test.Qxb6613550aRowInsEnd
import Derived.Test.Qxb6613550aRowInsHead
namespace Go.Proofs.Qxb6613550a
open Go.RowKit
set_option linter.unusedVariables false

theorem ptrs_take (cs : List Nat) (i : Nat) : (ptrs cs).take (i * 1) = ptrs (cs.take i) := by simp [ptrs]
theorem ptrs_drop (cs : List Nat) (i : Nat) : (ptrs cs).drop (i * 1) = ptrs (cs.drop i) := by simp [ptrs]
theorem ptrs_len1 (cs : List Nat) : (ptrs cs).length = cs.length * 1 := by simp [ptrs]
theorem ptr_oneCell (b : Nat) : ∀ u ∈ [ptr b], u.oneCell' = true := by intro u hu; simp at hu; subst hu; rfl
theorem ptrs_one (b : Nat) : ptrs [b] = [ptr b] := rfl

/-- The row of a node's entries, by name. -/
theorem NodeAt.rowE {B : Nat} {w : World} {b : Nat} {nd : ND} (h : NodeAt B w b nd) (hp : 0 < nd.es.length) : ∃ g l cap, Hid (nd.ve = .slice (some ⟨g, 0, none⟩) l cap ∧ l = nd.es.length) ∧ 0 < l ∧ l ≤ 100 ∧ w.cell? ⟨b, 1, none⟩ = some (.slice (some ⟨g, 0, none⟩) l cap) ∧ g ≠ b ∧ g < w.heap.size := by
  obtain ⟨g, cap, hv⟩ := ownsRow_some h.ents hp
  have hob : nd.ve.ownBlock = some g := by rw [hv]; rfl
  obtain ⟨cur, hh⟩ := ownsRow_heap h.ents hob
  exact ⟨g, nd.es.length, cap, ⟨hv, rfl⟩, hp, h.fewE, by rw [← hv]; exact h.cells.2.1, fun e => by rw [e, h.hd] at hh; simp at hh, heap_lt hh⟩

def PutE (B : Nat) (w : World) (σ : Sto) (b : Nat) (nd : ND) (es : List Ent) (ve : Value) (w' : World) : Prop :=
  Inv B (w'.setCell ⟨b, 1, none⟩ ve) (upd σ b { nd with ve := ve, es := es }) ∧ Kp B w (w'.setCell ⟨b, 1, none⟩ ve) ∧
    (∀ b' n' j, σ b' = some n' → w'.cell? ⟨b', j, none⟩ = w.cell? ⟨b', j, none⟩ ∧ w'.frozen? ⟨b', j, none⟩ = w.frozen? ⟨b', j, none⟩)

theorem putE_of {B : Nat} {w w' : World} {σ : Sto} {b : Nat} {nd : ND} (h : Inv B w σ) (hb : σ b = some nd) (hB : B ≤ w.heap.size) (hg : w.grownBy w' nd.ve.ownBlock) {ve : Value} {es : List Ent} {n : Nat} {xs : List Value}
    (hown : w'.ownsRow B 64 4 ve n xs) (hn : n = es.length) (hxs : xs = entsCells es) (hsm : es.length ≤ 100) (hblk : ∀ g, ve.ownBlock = some g → nd.ve.ownBlock = some g ∨ w.heap.size ≤ g) : PutE B w σ b nd es ve w' := by
  subst hn hxs
  obtain ⟨h1, h2⟩ := h.setEnts hb hB hg hown hsm hblk
  exact ⟨h1, h2, fun b' n' j hb' => hdr_keptE h hb hg hb' j⟩

theorem cutE_st {B : Nat} {w : World} {σ : Sto} {b : Nat} {nd : ND} (h : Inv B w σ) (hb : σ b = some nd) (hB : B ≤ w.heap.size) {g l cap : Nat} (hv : nd.ve = .slice (some ⟨g, 0, none⟩) l cap ∧ l = nd.es.length) (k : Nat) (hk : k < l) :
    Calls Try.prog 40 #[.slice (some ⟨g, 0, none⟩) l cap, .int .i64 k] w fun e w' => e = .returned (.slice (some ⟨g, 0, none⟩) k cap) ∧ PutE B w σ b nd (nd.es.take k) (.slice (some ⟨g, 0, none⟩) k cap) w' := by
  have n := h.node b nd hb
  have own := n.ents
  rw [hv.1, ← hv.2] at own
  have few := n.fewE
  refine (cutE B g l cap k _ w own hk (by omega)).mono ?_
  rintro e w' ⟨rfl, h1, h2⟩
  have hob : nd.ve.ownBlock = some g := by rw [hv.1]; rfl
  exact ⟨rfl, putE_of h hb hB (by rw [hob]; exact h2) h1 (by rw [List.length_take]; omega) (entsCells_take _ _) (by rw [List.length_take]; omega) (fun g' hg' => .inl (by rw [hob]; simpa [Value.ownBlock] using hg'))⟩

theorem sdelE_st {B : Nat} {w : World} {σ : Sto} {b : Nat} {nd : ND} (h : Inv B w σ) (hb : σ b = some nd) (hB : B ≤ w.heap.size) {g l cap : Nat} (hv : nd.ve = .slice (some ⟨g, 0, none⟩) l cap ∧ l = nd.es.length) (i : Nat) (hi : i < l) :
    Calls Try.prog 26 #[.slice (some ⟨g, 0, none⟩) l cap, .int .i64 i, .int .i64 ((i : Int) + 1)] w fun e w' => e = .returned (.slice (some ⟨g, 0, none⟩) (l - 1) cap) ∧ PutE B w σ b nd (nd.es.take i ++ nd.es.drop (i + 1)) (.slice (some ⟨g, 0, none⟩) (l - 1) cap) w' := by
  have n := h.node b nd hb
  have own := n.ents
  rw [hv.1, ← hv.2] at own
  have few := n.fewE
  obtain ⟨p, rfl⟩ : ∃ p, l = p + 1 := ⟨l - 1, by omega⟩
  refine (sdelE B g p cap i _ w own (by omega) (by omega) (entsCells_oneCell _)).mono ?_
  rintro e w' ⟨rfl, h1, h2⟩
  have hob : nd.ve.ownBlock = some g := by rw [hv.1]; rfl
  have hl : (nd.es.take i ++ nd.es.drop (i + 1)).length = p := by rw [List.length_append, List.length_take, List.length_drop]; omega
  exact ⟨rfl, putE_of h hb hB (by rw [hob]; exact h2) h1 (by omega) (entsCells_erase _ _) (by omega) (fun g' hg' => .inl (by rw [hob]; simpa [Value.ownBlock] using hg'))⟩

theorem insHeadE_st {B : Nat} {w : World} {σ : Sto} {b : Nat} {nd : ND} (h : Inv B w σ) (hb : σ b = some nd) (hB : B ≤ w.heap.size) {g l cap : Nat} (hv : nd.ve = .slice (some ⟨g, 0, none⟩) l cap ∧ l = nd.es.length) (hl0 : 0 < l) (hl : l ≤ 99) (x : Ent) (gv : Nat)
    (hgv : w.heap[gv]? = some (.cells (#[.int .u64 x.k, .int .u64 x.c, .int .u64 x.s, .nilIface]) 64 (0, 0))) (hne : gv ≠ g) :
    Calls Try.prog 39 #[.slice (some ⟨g, 0, none⟩) l cap, .int .i64 0, .slice (some ⟨gv, 0, none⟩) 1 1] w fun e w' => ∃ g' cap', e = .returned (.slice (some ⟨g', 0, none⟩) (l + 1) cap') ∧ PutE B w σ b nd (x :: nd.es) (.slice (some ⟨g', 0, none⟩) (l + 1) cap') w' := by
  have n := h.node b nd hb
  have own := n.ents
  rw [hv.1, ← hv.2] at own
  have few := n.fewE
  refine (insHeadE B g l cap _ gv _ (entCells x) w own hl0 (by omega) hB (by rfl) hgv (by rfl) hne (entCells_oneCell x) (entsCells_oneCell _)).mono ?_
  rintro e w' ⟨g', cap', rfl, h1, h2, h3⟩
  have hob : nd.ve.ownBlock = some g := by rw [hv.1]; rfl
  refine ⟨g', cap', rfl, putE_of h hb hB (by rw [hob]; exact h2) h1 (by simp; omega) (by rfl) (by simp; omega) (fun q hq => ?_)⟩
  simp [Value.ownBlock] at hq
  rcases h3 with h3 | h3
  · exact .inl (by rw [hob, h3, hq])
  · exact .inr (by omega)

theorem insEndE_st {B : Nat} {w : World} {σ : Sto} {b : Nat} {nd : ND} (h : Inv B w σ) (hb : σ b = some nd) (hB : B ≤ w.heap.size) {l : Nat} {v : Value} (hv : nd.ve = v ∧ l = nd.es.length) (hl : l ≤ 99) (x : Ent) (gv : Nat)
    (hgv : w.heap[gv]? = some (.cells (#[.int .u64 x.k, .int .u64 x.c, .int .u64 x.s, .nilIface]) 64 (0, 0))) :
    Calls Try.prog 39 #[v, .int .i64 l, .slice (some ⟨gv, 0, none⟩) 1 1] w fun e w' => ∃ g' cap', e = .returned (.slice (some ⟨g', 0, none⟩) (l + 1) cap') ∧ PutE B w σ b nd (nd.es ++ [x]) (.slice (some ⟨g', 0, none⟩) (l + 1) cap') w' := by
  have n := h.node b nd hb
  have own := n.ents
  rw [hv.1, ← hv.2] at own
  have few := n.fewE
  have hnews : ∀ j u, (entCells x)[j]? = some u → w.cell? ((⟨gv, 0, none⟩ : Addr).add j) = some u := fun j u hu => by
    rw [Addr.add_lit, Nat.zero_add, cell_of_row w gv j _ 64 (0, 0) hgv]
    simpa [entCells, ptr] using hu
  refine (insEndE B l v _ gv (entCells x) w own (by omega) hB (by rfl) hnews (entCells_oneCell x)).mono ?_
  rintro e w' ⟨g', cap', rfl, h1, h2, h3⟩
  refine ⟨g', cap', rfl, putE_of h hb hB (by rw [hv.1]; exact h2) h1 (by simp; omega) (by rw [entsCells_append, entsCells_one]) (by simp; omega) (fun q hq => ?_)⟩
  simp [Value.ownBlock] at hq
  rcases h3 with h3 | h3
  · exact .inl (by rw [hv.1, h3, hq])
  · exact .inr (by omega)

/-- The row of a node's children, by name. -/
theorem NodeAt.rowC {B : Nat} {w : World} {b : Nat} {nd : ND} (h : NodeAt B w b nd) (hp : 0 < nd.cs.length) : ∃ g l cap, Hid (nd.vc = .slice (some ⟨g, 0, none⟩) l cap ∧ l = nd.cs.length) ∧ 0 < l ∧ l ≤ 100 ∧ w.cell? ⟨b, 2, none⟩ = some (.slice (some ⟨g, 0, none⟩) l cap) ∧ g ≠ b ∧ g < w.heap.size := by
  obtain ⟨g, cap, hv⟩ := ownsRow_some h.kids hp
  have hob : nd.vc.ownBlock = some g := by rw [hv]; rfl
  obtain ⟨cur, hh⟩ := ownsRow_heap h.kids hob
  exact ⟨g, nd.cs.length, cap, ⟨hv, rfl⟩, hp, h.fewC, by rw [← hv]; exact h.cells.2.2.1, fun e => by rw [e, h.hd] at hh; simp at hh, heap_lt hh⟩

def PutC (B : Nat) (w : World) (σ : Sto) (b : Nat) (nd : ND) (es : List Nat) (ve : Value) (w' : World) : Prop :=
  Inv B (w'.setCell ⟨b, 2, none⟩ ve) (upd σ b { nd with vc := ve, cs := es }) ∧ Kp B w (w'.setCell ⟨b, 2, none⟩ ve) ∧
    (∀ b' n' j, σ b' = some n' → w'.cell? ⟨b', j, none⟩ = w.cell? ⟨b', j, none⟩ ∧ w'.frozen? ⟨b', j, none⟩ = w.frozen? ⟨b', j, none⟩)

theorem putC_of {B : Nat} {w w' : World} {σ : Sto} {b : Nat} {nd : ND} (h : Inv B w σ) (hb : σ b = some nd) (hB : B ≤ w.heap.size) (hg : w.grownBy w' nd.vc.ownBlock) {ve : Value} {es : List Nat} {n : Nat} {xs : List Value}
    (hown : w'.ownsRow B 29 1 ve n xs) (hn : n = es.length) (hxs : xs = ptrs es) (hsm : es.length ≤ 100) (hne : es ≠ []) (hblk : ∀ g, ve.ownBlock = some g → nd.vc.ownBlock = some g ∨ w.heap.size ≤ g) : PutC B w σ b nd es ve w' := by
  subst hn hxs
  obtain ⟨h1, h2⟩ := h.setKids hb hB hg hown hne hsm hblk
  exact ⟨h1, h2, fun b' n' j hb' => hdr_keptC h hb hg hb' j⟩

theorem cutC_st {B : Nat} {w : World} {σ : Sto} {b : Nat} {nd : ND} (h : Inv B w σ) (hb : σ b = some nd) (hB : B ≤ w.heap.size) {g l cap : Nat} (hv : nd.vc = .slice (some ⟨g, 0, none⟩) l cap ∧ l = nd.cs.length) (k : Nat) (hk : k < l) (hk0 : 0 < k) :
    Calls Try.prog 42 #[.slice (some ⟨g, 0, none⟩) l cap, .int .i64 k] w fun e w' => e = .returned (.slice (some ⟨g, 0, none⟩) k cap) ∧ PutC B w σ b nd (nd.cs.take k) (.slice (some ⟨g, 0, none⟩) k cap) w' := by
  have n := h.node b nd hb
  have own := n.kids
  rw [hv.1, ← hv.2] at own
  have few := n.fewC
  refine (cutC B g l cap k _ w own hk (by omega)).mono ?_
  rintro e w' ⟨rfl, h1, h2⟩
  have hob : nd.vc.ownBlock = some g := by rw [hv.1]; rfl
  exact ⟨rfl, putC_of h hb hB (by rw [hob]; exact h2) h1 (by rw [List.length_take]; omega) (ptrs_take _ _) (by rw [List.length_take]; omega) (by intro e; have := congrArg List.length e; rw [List.length_take, List.length_nil] at this; omega) (fun g' hg' => .inl (by rw [hob]; simpa [Value.ownBlock] using hg'))⟩

theorem sdelC_st {B : Nat} {w : World} {σ : Sto} {b : Nat} {nd : ND} (h : Inv B w σ) (hb : σ b = some nd) (hB : B ≤ w.heap.size) {g l cap : Nat} (hv : nd.vc = .slice (some ⟨g, 0, none⟩) l cap ∧ l = nd.cs.length) (i : Nat) (hi : i < l) (hl1 : 1 < l) :
    Calls Try.prog 38 #[.slice (some ⟨g, 0, none⟩) l cap, .int .i64 i, .int .i64 ((i : Int) + 1)] w fun e w' => e = .returned (.slice (some ⟨g, 0, none⟩) (l - 1) cap) ∧ PutC B w σ b nd (nd.cs.take i ++ nd.cs.drop (i + 1)) (.slice (some ⟨g, 0, none⟩) (l - 1) cap) w' := by
  have n := h.node b nd hb
  have own := n.kids
  rw [hv.1, ← hv.2] at own
  have few := n.fewC
  obtain ⟨p, rfl⟩ : ∃ p, l = p + 1 := ⟨l - 1, by omega⟩
  refine (sdelC B g p cap i _ w own (by omega) (by omega) (ptrs_oneCell _)).mono ?_
  rintro e w' ⟨rfl, h1, h2⟩
  have hob : nd.vc.ownBlock = some g := by rw [hv.1]; rfl
  have hl : (nd.cs.take i ++ nd.cs.drop (i + 1)).length = p := by rw [List.length_append, List.length_take, List.length_drop]; omega
  exact ⟨rfl, putC_of h hb hB (by rw [hob]; exact h2) h1 (by omega) (ptrs_erase _ _) (by omega) (by intro e; rw [e] at hl; simp at hl; omega) (fun g' hg' => .inl (by rw [hob]; simpa [Value.ownBlock] using hg'))⟩

theorem insHeadC_st {B : Nat} {w : World} {σ : Sto} {b : Nat} {nd : ND} (h : Inv B w σ) (hb : σ b = some nd) (hB : B ≤ w.heap.size) {g l cap : Nat} (hv : nd.vc = .slice (some ⟨g, 0, none⟩) l cap ∧ l = nd.cs.length) (hl0 : 0 < l) (hl : l ≤ 99) (x : Nat) (gv : Nat)
    (hgv : w.heap[gv]? = some (.cells (#[.pointer (some ⟨x, 0, none⟩)]) 29 (0, 0))) (hne : gv ≠ g) :
    Calls Try.prog 41 #[.slice (some ⟨g, 0, none⟩) l cap, .int .i64 0, .slice (some ⟨gv, 0, none⟩) 1 1] w fun e w' => ∃ g' cap', e = .returned (.slice (some ⟨g', 0, none⟩) (l + 1) cap') ∧ PutC B w σ b nd (x :: nd.cs) (.slice (some ⟨g', 0, none⟩) (l + 1) cap') w' := by
  have n := h.node b nd hb
  have own := n.kids
  rw [hv.1, ← hv.2] at own
  have few := n.fewC
  refine (insHeadC B g l cap _ gv _ ([ptr x]) w own hl0 (by omega) hB (by rfl) hgv (by rfl) hne (ptr_oneCell x) (ptrs_oneCell _)).mono ?_
  rintro e w' ⟨g', cap', rfl, h1, h2, h3⟩
  have hob : nd.vc.ownBlock = some g := by rw [hv.1]; rfl
  refine ⟨g', cap', rfl, putC_of h hb hB (by rw [hob]; exact h2) h1 (by simp; omega) (by rfl) (by simp; omega) (by simp) (fun q hq => ?_)⟩
  simp [Value.ownBlock] at hq
  rcases h3 with h3 | h3
  · exact .inl (by rw [hob, h3, hq])
  · exact .inr (by omega)

theorem insEndC_st {B : Nat} {w : World} {σ : Sto} {b : Nat} {nd : ND} (h : Inv B w σ) (hb : σ b = some nd) (hB : B ≤ w.heap.size) {l : Nat} {v : Value} (hv : nd.vc = v ∧ l = nd.cs.length) (hl : l ≤ 99) (x : Nat) (gv : Nat)
    (hgv : w.heap[gv]? = some (.cells (#[.pointer (some ⟨x, 0, none⟩)]) 29 (0, 0))) :
    Calls Try.prog 41 #[v, .int .i64 l, .slice (some ⟨gv, 0, none⟩) 1 1] w fun e w' => ∃ g' cap', e = .returned (.slice (some ⟨g', 0, none⟩) (l + 1) cap') ∧ PutC B w σ b nd (nd.cs ++ [x]) (.slice (some ⟨g', 0, none⟩) (l + 1) cap') w' := by
  have n := h.node b nd hb
  have own := n.kids
  rw [hv.1, ← hv.2] at own
  have few := n.fewC
  have hnews : ∀ j u, ([ptr x])[j]? = some u → w.cell? ((⟨gv, 0, none⟩ : Addr).add j) = some u := fun j u hu => by
    rw [Addr.add_lit, Nat.zero_add, cell_of_row w gv j _ 29 (0, 0) hgv]
    simpa [entCells, ptr] using hu
  refine (insEndC B l v _ gv ([ptr x]) w own (by omega) hB (by rfl) hnews (ptr_oneCell x)).mono ?_
  rintro e w' ⟨g', cap', rfl, h1, h2, h3⟩
  refine ⟨g', cap', rfl, putC_of h hb hB (by rw [hv.1]; exact h2) h1 (by simp; omega) (by rw [ptrs_append, ptrs_one]) (by simp; omega) (by simp) (fun q hq => ?_)⟩
  simp [Value.ownBlock] at hq
  rcases h3 with h3 | h3
  · exact .inl (by rw [hv.1, h3, hq])
  · exact .inr (by omega)
end Go.Proofs.Qxb6613550a
