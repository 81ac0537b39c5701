/-
  node.ascend: whatever loop body keeps its word, the walk over the tree comes to an end.
-/
import Derived.Test.Qxb6613550aSpTree
import Derived.RangeFuncNested
import Derived.RangeFuncBound
import Derived.RangeFuncCalls
import Derived.RangeFuncLeaves
import Derived.Shelf.Abstract
import Derived.Shelf.RegionOpen
import Derived.OwnWalkIn
import Derived.TacticsInMore
import Derived.LoopNIn
import Derived.LoopIn
namespace Go.Proofs.Qxb6613550a
open Go.RowKit Go.Shelf
set_option linter.unusedVariables false
attribute [local go_sem] Oper.semAt_some

theorem room_of_none {F : Fence} (hd : F.depth = none) (k : Nat) : F.room k := fun d h => by rw [hd] at h; cases h
theorem RoundIn.anyDepth {F : Fence} (hd : F.depth = none) {m m' : Nat} {P : Program} {l : Nat} {f : FuncId} {tmps : Array Value} {assign body : Code} {w : World} {R : Ending → World → Prop}
    (h : RoundIn F m P l f tmps assign body w R) : RoundIn F m' P l f tmps assign body w R := ⟨h.1, fun c cs _ => h.2 c cs (room_of_none hd _)⟩
theorem YieldAt.anyDepth {F : Fence} (hd : F.depth = none) {m : Nat} (m' : Nat) {P : Program} {l : Nat} {args : Array Value} {W : World} {R : Ending → World → Prop} (h : YieldAt F m P l args W R) : YieldAt F m' P l args W R := by
  obtain ⟨fn, tmps, assign, body, hy, hR⟩ := h
  exact ⟨fn, tmps, assign, body, hy, RoundIn.anyDepth hd hR⟩

def OkE (e : Ent) : Prop := (Lit.int .u64 e.k).wf = true ∧ (Lit.int .u64 e.c).wf = true
/-- An entry whose numbers fit their kinds. -/
abbrev SE := { e : Ent // OkE e }
def encE (x : SE) : Array Value := #[.int .u64 x.1.k, .agg #[.int .u64 x.1.c, .int .u64 x.1.s, .nilIface]]

/-- What a round keeps: the nodes. -/
structure Kq (W W' : World) : Prop where
  size : W.heap.size ≤ W'.heap.size
  same : ∀ (k : Nat) (cur : Array Value) (t : TypeId) (fr : Nat × Nat), W.heap[k]? = some (Obj.cells cur t fr) → (t = 67 ∨ t = 64 ∨ t = 29) → W'.heap[k]? = some (Obj.cells cur t fr)
theorem Kq.refl (W : World) : Kq W W := ⟨Nat.le_refl _, fun _ _ _ _ h _ => h⟩
theorem Kq.trans {A B C : World} (h : Kq A B) (k : Kq B C) : Kq A C := ⟨Nat.le_trans h.size k.size, fun i cur t fr hi ht => k.same i cur t fr (h.same i cur t fr hi ht) ht⟩
theorem Kq.drewN (W : World) (n : Nat) : Kq W (W.drewN n) := ⟨Nat.le_refl _, fun _ _ _ _ h _ => h⟩
theorem Kq.inv {B : Nat} {W W' : World} {σ : Sto} (k : Kq W W') (h : Inv B W σ) : Inv B W' σ := by
  refine ⟨fun b nd hb => ?_, h.inje, h.injc⟩
  have n := h.node b nd hb
  refine n.keep ?_ (fun g hg => ?_) (fun g hg => ?_)
  · rw [n.hd]; exact k.same _ _ _ _ n.hd (.inl rfl)
  · obtain ⟨cur, hh⟩ := ownsRow_heap n.ents hg
    rw [hh]; exact k.same _ _ _ _ hh (.inr (.inl rfl))
  · obtain ⟨cur, hh⟩ := ownsRow_heap n.kids hg
    rw [hh]; exact k.same _ _ _ _ hh (.inr (.inr rfl))

/-- How many entries of a node, and of the children behind them, are still to come from entry j on. -/
def left0 (nd : ND) (j : Nat) : Nat := nd.es.length - j
def leftS (σ : Sto) (g : Nat) (nd : ND) (j : Nat) : Nat := (suf ((nd.cs.drop (j + 1)).map (cont σ g)) (nd.es.drop j)).length
theorem leftS_next {σ : Sto} {g : Nat} {nd : ND} (h1 : nd.cs.length = nd.es.length + 1) {j : Nat} (hj : j < nd.es.length) :
    leftS σ g nd j = 1 + ((cont σ g (nd.cs[j + 1]'(by omega))).length + leftS σ g nd (j + 1)) := by
  unfold leftS
  rw [List.drop_eq_getElem_cons hj, suf_ne (by simp; omega), List.drop_eq_getElem_cons (show j + 1 < nd.cs.length by omega)]
  rw [List.map_cons]
  show (_ :: (cont σ g nd.cs[j + 1] ++ suf _ _)).length = _
  rw [List.length_cons, List.length_append]; omega
theorem leftS_start {σ : Sto} {g b : Nat} {nd : ND} (hb : σ b = some nd) (h1 : nd.cs.length = nd.es.length + 1) {r : Nat} (hr : r ≤ nd.es.length) :
    (cont σ g (nd.cs[r]'(by omega))).length + leftS σ g nd r ≤ (cont σ (g + 1) b).length := by
  have hlt : r < nd.cs.length := by omega
  have hp : cont σ (g + 1) b = pre ((nd.cs.take r).map (cont σ g)) (nd.es.take r) ++ (cont σ g nd.cs[r] ++ suf ((nd.cs.drop (r + 1)).map (cont σ g)) (nd.es.drop r)) := by
    rw [cont_succ hb]
    conv => lhs; rw [← List.take_append_drop r nd.cs, ← List.getElem_cons_drop hlt, ← List.take_append_drop r nd.es]
    rw [List.map_append, List.map_cons, weave_split _ _ _ _ _ (by simp; omega)]
  rw [hp]; unfold leftS; rw [List.length_append, List.length_append]; omega

theorem mem_kid {σ : Sto} {g b : Nat} {nd : ND} (hw : WF σ (g + 1) b) (hb : σ b = some nd) {c : Nat} (hc : c ∈ nd.cs) {x : Ent} (hx : x ∈ cont σ g c) : x ∈ cont σ (g + 1) b := by
  obtain ⟨s1, _⟩ := hw.succ hb
  obtain ⟨a, d, hcs⟩ := List.append_of_mem hc
  have hle : a.length ≤ nd.es.length := by rw [hcs] at s1; simp at s1; omega
  have e1 : cont σ (g + 1) b = pre (a.map (cont σ g)) (nd.es.take a.length) ++ (cont σ g c ++ suf (d.map (cont σ g)) (nd.es.drop a.length)) := by
    rw [cont_succ hb, hcs, List.map_append, List.map_cons]
    conv => lhs; rw [← List.take_append_drop a.length nd.es]
    rw [weave_split _ _ _ _ _ (by simp; omega)]
  rw [e1]
  simp [hx]
theorem mem_es {σ : Sto} {h b : Nat} {nd : ND} (hw : WF σ h b) (hb : σ b = some nd) {x : Ent} (hx : x ∈ nd.es) : x ∈ cont σ h b := by
  cases h with
  | zero => simpa [cont, ents_of hb] using hx
  | succ h =>
    obtain ⟨s1, _⟩ := hw.succ hb
    rw [cont_succ hb]
    exact (sub_weave _ _ (by simp [s1])).subset hx
theorem srt_kid {σ : Sto} {g b : Nat} {nd : ND} (hw : WF σ (g + 1) b) (hb : σ b = some nd) (hs : Srt (cont σ (g + 1) b)) {c : Nat} (hc : c ∈ nd.cs) : Srt (cont σ g c) := by
  obtain ⟨s1, _⟩ := hw.succ hb
  obtain ⟨a, d, hcs⟩ := List.append_of_mem hc
  have hle : a.length ≤ nd.es.length := by rw [hcs] at s1; simp at s1; omega
  have e1 : cont σ (g + 1) b = pre (a.map (cont σ g)) (nd.es.take a.length) ++ (cont σ g c ++ suf (d.map (cont σ g)) (nd.es.drop a.length)) := by
    rw [cont_succ hb, hcs, List.map_append, List.map_cons]
    conv => lhs; rw [← List.take_append_drop a.length nd.es]
    rw [weave_split _ _ _ _ _ (by simp; omega)]
  rw [e1] at hs
  exact (srt_parts hs).2.1
end Go.Proofs.Qxb6613550a
