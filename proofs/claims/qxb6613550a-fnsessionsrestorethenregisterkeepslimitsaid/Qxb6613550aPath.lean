/-
  The path array of Map.Set: sixteen pointers, a slice of it, appended to in place.
-/
import Derived.Test.Qxb6613550aFrame
import Derived.ArgAppend
namespace Go.Proofs.Qxb6613550a
open Go.RowKit
set_option linter.unusedVariables false

def pathBlk (ps : List Nat) : Array Value := (ptrs ps ++ List.replicate (16 - ps.length) (Value.pointer none)).toArray

theorem pathBlk_nil : pathBlk [] = #[.pointer none, .pointer none, .pointer none, .pointer none, .pointer none, .pointer none, .pointer none, .pointer none, .pointer none, .pointer none, .pointer none, .pointer none, .pointer none, .pointer none, .pointer none, .pointer none] := by rfl

theorem pathBlk_snoc (ps : List Nat) (b : Nat) (hl : ps.length < 16) : (pathBlk ps).setIfInBounds ps.length (ptr b) = pathBlk (ps ++ [b]) := by
  unfold pathBlk
  obtain ⟨k, hk⟩ : ∃ k, 16 - ps.length = k + 1 := ⟨15 - ps.length, by omega⟩
  have hk2 : 16 - (ps ++ [b]).length = k := by simp; omega
  rw [hk, hk2, List.setIfInBounds_toArray, List.replicate_succ, ptrs_append]
  congr 1
  rw [List.set_append_right _ _ (by simp [ptrs_length]), ptrs_length]
  simp [ptrs]

theorem pathBlk_get (ps : List Nat) (i : Nat) (h : i < ps.length) : (pathBlk ps)[i]? = some (ptr ps[i]) := by
  unfold pathBlk
  rw [List.getElem?_toArray, List.getElem?_append_left (by simpa [ptrs_length] using h)]
  simp [ptrs, h]

theorem path_append (W : World) (pb b q ty : Nat) (ps : List Nat) (hp : W.heap[pb]? = some (.cells (pathBlk ps) 82 (0, 0))) (hl : ps.length < 16) (hq : W.heap[q]? = some (.cells #[ptr b] 29 (0, 0))) :
    (Builtin.append_ #[65, 65] ty #[.slice (some ⟨pb, 0, none⟩) ps.length 16, .slice (some ⟨q, 0, none⟩) 1 1]).run Try.prog W = .ok (.slice (some ⟨pb, 0, none⟩) (ps.length + 1) 16) (W.setCell ⟨pb, ps.length, none⟩ (ptr b)) := by
  obtain ⟨i0, hi0, hz0, hz1, hz2⟩ := info_parts infoC
  have hsz : ps.length < (pathBlk ps).size := by simp [pathBlk, ptrs_length]; omega
  have h := run_append_room_cells (P := Try.prog) W 65 ty 29 i0 Try.underlying65 hi0 pb 0 ps.length 16 ⟨q, 0, none⟩ 1 1 [ptr b] (by simp [hz1]) (fun j u hj => by
    cases j with
    | zero => simp at hj; subst hj; show W.cell? ⟨q, 0 + 0, none⟩ = _; rw [cell_of_row W q _ _ 29 (0, 0) hq]; rfl
    | succ j => simp at hj) (by intro u hu; simp at hu; subst hu; rfl) (by omega)
    (fun j hj => by
      simp at hj; subst hj
      rw [hz1, cell_of_row W pb _ _ 82 (0, 0) hp]; simp [hsz]) (fun j hj => by simp [World.frozen?, hp])
  rw [h, hz1]
  simp [World.setCells]
end Go.Proofs.Qxb6613550a
