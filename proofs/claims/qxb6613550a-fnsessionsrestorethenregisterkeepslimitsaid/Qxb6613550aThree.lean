/-
  THREE NODES TURNED AT ONCE: a store with three places written.
-/
import Derived.Test.Qxb6613550aOps
namespace Go.Proofs.Qxb6613550a
open Go.RowKit

def u3 (σ : Sto) (a b c : Nat) (na nb nc : ND) : Sto := upd (upd (upd σ a na) b nb) c nc

structure Dif (a b c : Nat) : Prop where
  ab : a ≠ b
  ac : a ≠ c
  bc : b ≠ c

theorem u3_self {σ : Sto} {a b c : Nat} {na nb nc : ND} (ha : σ a = some na) (hb : σ b = some nb) (hc : σ c = some nc) : u3 σ a b c na nb nc = σ := by
  funext x
  simp only [u3, upd]
  split
  · next h => rw [h, hc]
  · split
    · next h => rw [h, hb]
    · split
      · next h => rw [h, ha]
      · rfl
theorem u3_a {σ : Sto} {a b c : Nat} (d : Dif a b c) {na nb nc : ND} : u3 σ a b c na nb nc a = some na := by simp [u3, upd, d.ab, d.ac]
theorem u3_b {σ : Sto} {a b c : Nat} (d : Dif a b c) {na nb nc : ND} : u3 σ a b c na nb nc b = some nb := by simp [u3, upd, d.bc]
theorem u3_c {σ : Sto} {a b c : Nat} {na nb nc : ND} : u3 σ a b c na nb nc c = some nc := by simp [u3, upd]
theorem u3_other {σ : Sto} {a b c : Nat} {na nb nc : ND} {x : Nat} (ha : x ≠ a) (hb : x ≠ b) (hc : x ≠ c) : u3 σ a b c na nb nc x = σ x := by simp [u3, upd, ha, hb, hc]
theorem u3_ua {σ : Sto} {a b c : Nat} (d : Dif a b c) {na nb nc n : ND} : upd (u3 σ a b c na nb nc) a n = u3 σ a b c n nb nc := by
  funext x; simp only [u3, upd]; split
  · next h => subst h; simp [d.ab, d.ac]
  · rfl
theorem u3_ub {σ : Sto} {a b c : Nat} (d : Dif a b c) {na nb nc n : ND} : upd (u3 σ a b c na nb nc) b n = u3 σ a b c na n nc := by
  funext x; simp only [u3, upd]; split
  · next h => subst h; simp [d.bc]
  · rfl
theorem u3_uc {σ : Sto} {a b c : Nat} {na nb nc n : ND} : upd (u3 σ a b c na nb nc) c n = u3 σ a b c na nb n := by
  funext x; simp only [u3, upd]; split <;> rfl

/-- The rows of a node are free to be written. -/
theorem NodeAt.freeE {B : Nat} {w : World} {b : Nat} {nd : ND} (h : NodeAt B w b nd) {g n cap : Nat} (hv : nd.ve = .slice (some ⟨g, 0, none⟩) n cap) (j : Nat) : w.frozen? ⟨g, j, none⟩ = false := by
  obtain ⟨cur, hh⟩ := ownsRow_heap h.ents (show nd.ve.ownBlock = some g by rw [hv]; rfl)
  simp [World.frozen?, hh]

/-- A cell, a block seen through a new one. -/
theorem alloc_cell {W : World} {a : Addr} {v : Value} (o : Obj) (h : W.cell? a = some v) : (W.drew.alloc o).cell? a = some v := Lib.cell?_alloc_some o (show W.drew.cell? a = some v from h)
theorem alloc_frozen {W : World} {b j : Nat} (o : Obj) (hb : b < W.heap.size) (h : W.frozen? ⟨b, j, none⟩ = false) : (W.drew.alloc o).frozen? ⟨b, j, none⟩ = false := by
  have e : (W.drew.alloc o).heap[b]? = W.heap[b]? := Below.heap_alloc W.drew o b hb
  rw [World.frozen?_of_block (w := W) (w' := W.drew.alloc o) (a := ⟨b, j, none⟩) e]; exact h
theorem alloc_cell0 {W : World} {a : Addr} {v : Value} (o : Obj) (h : W.cell? a = some v) : (W.alloc o).cell? a = some v := Lib.cell?_alloc_some o h
theorem alloc_frozen0 {W : World} {b j : Nat} (o : Obj) (hb : b < W.heap.size) (h : W.frozen? ⟨b, j, none⟩ = false) : (W.alloc o).frozen? ⟨b, j, none⟩ = false := by
  have e : (W.alloc o).heap[b]? = W.heap[b]? := Below.heap_alloc W o b hb
  rw [World.frozen?_of_block (w := W) (w' := W.alloc o) (a := ⟨b, j, none⟩) e]; exact h
theorem alloc_new0 (W : World) (o : Obj) : (W.alloc o).heap[W.heap.size]? = some o := by
  show (W.heap.push o)[W.heap.size]? = some o
  simp
theorem alloc_new (W : World) (o : Obj) : (W.drew.alloc o).heap[W.heap.size]? = some o := by
  show (W.heap.push o)[W.heap.size]? = some o
  simp
end Go.Proofs.Qxb6613550a
