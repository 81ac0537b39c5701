import Derived.Test.Qxb6613550aRowBase
namespace Go.Proofs.Qxb6613550a
open Go.RowKit

set_option maxHeartbeats 400000 in
/-- btree.cut: the tail cleared, the slice cut. -/
theorem cutE (B g n cap k : Nat) (xs : List Value) (w : World) (hown : w.ownsRow B 64 4 (.slice (some ⟨g, 0, none⟩) n cap) n xs) (hk : k < n) (hn : n ≤ 1000) :
    Calls Try.prog 40 #[.slice (some ⟨g, 0, none⟩) n cap, .int .i64 k] w fun e w' =>
      e = .returned (.slice (some ⟨g, 0, none⟩) k cap) ∧ w'.ownsRow B 64 4 (.slice (some ⟨g, 0, none⟩) k cap) k (xs.take (k * 4)) ∧ w.grownBy w' (some g) := by
  obtain ⟨cur, hB, hg, hnc, hcm, hcs, ht⟩ := ownsRow_row hown
  have HG : Hid (w.heap[g]? = some (.cells cur 64 (0, 0))) := hg
  have HS : Hid (cur.size = cap * 4) := hcs
  have HT : Hid (cur.toList.take (n * 4) = xs) := ht
  have HM : Hid (cap ≤ maxLen) := hcm
  have hck : (k : Int) ≤ 1000 := by omega
  have hkn : ¬ cap = k := by omega
  have hcap : (cap : Int) ≤ 9223372036854775807 := by unfold maxLen at hcm; omega
  clear hg hcs ht hown hcm
  go_enter Try.func40, Try.ntmps40
  go_wp2_with (refine wpList_clear_by _ rfl (.tmp 7) 61 rfl _ rfl (run_clear_rowK _ 61 _ 64 (.agg #[.int .u64 0, .int .u64 0, .int .u64 0, .nilIface]) Try.underlying61 zeroE g ((k) * 4) (n - k) (cap - k) (by omega) cur 64 HG.out ?hfit ?h1) ?_)
  case hfit =>
    have := HS.out
    simp [Value.cells]
    omega
  case h1 => exact zeroCells_one _ _ (by simp [Value.cells]; decide)
  go_ret
  refine ⟨rfl, ?_, grownBy_setRow _ _ _⟩
  have hsz := HS.out
  refine ownsRow_mk _ hB (setRow_heap w g cur _ 64 (0, 0) HG.out) (by omega) HM.out ?_ ?_
  · rw [List.size_toArray, length_splice _ _ _ (by simp [size_zeroCells]; omega)]
    simpa using hsz
  · rw [← HT.out, List.take_take, Nat.min_eq_left (by omega)]
    simpa [Value.cells] using take_splice cur.toList ((k) * 4) (Builtin.zeroCells ((.agg #[.int .u64 0, .int .u64 0, .int .u64 0, .nilIface]) : Value).cells (n - k)).toList (by rw [Array.length_toList]; omega)

set_option maxHeartbeats 400000 in
/-- btree.cut: the tail cleared, the slice cut. -/
theorem cutC (B g n cap k : Nat) (xs : List Value) (w : World) (hown : w.ownsRow B 29 1 (.slice (some ⟨g, 0, none⟩) n cap) n xs) (hk : k < n) (hn : n ≤ 1000) :
    Calls Try.prog 42 #[.slice (some ⟨g, 0, none⟩) n cap, .int .i64 k] w fun e w' =>
      e = .returned (.slice (some ⟨g, 0, none⟩) k cap) ∧ w'.ownsRow B 29 1 (.slice (some ⟨g, 0, none⟩) k cap) k (xs.take (k * 1)) ∧ w.grownBy w' (some g) := by
  obtain ⟨cur, hB, hg, hnc, hcm, hcs, ht⟩ := ownsRow_row hown
  have HG : Hid (w.heap[g]? = some (.cells cur 29 (0, 0))) := hg
  have HS : Hid (cur.size = cap * 1) := hcs
  have HT : Hid (cur.toList.take (n * 1) = xs) := ht
  have HM : Hid (cap ≤ maxLen) := hcm
  have hck : (k : Int) ≤ 1000 := by omega
  have hkn : ¬ cap = k := by omega
  have hcap : (cap : Int) ≤ 9223372036854775807 := by unfold maxLen at hcm; omega
  clear hg hcs ht hown hcm
  go_enter Try.func42, Try.ntmps42
  go_wp2_with (refine wpList_clear_by _ rfl (.tmp 7) 65 rfl _ rfl (run_clear_rowK _ 65 _ 29 (.pointer none) Try.underlying65 zeroC g ((k)) (n - k) (cap - k) (by omega) cur 29 HG.out ?hfit ?h1) ?_)
  case hfit =>
    have := HS.out
    simp [Value.cells]
    omega
  case h1 => exact zeroCells_one _ _ (by simp [Value.cells]; decide)
  go_ret
  refine ⟨rfl, ?_, grownBy_setRow _ _ _⟩
  have hsz := HS.out
  refine ownsRow_mk _ hB (setRow_heap w g cur _ 29 (0, 0) HG.out) (by omega) HM.out ?_ ?_
  · rw [List.size_toArray, length_splice _ _ _ (by simp [size_zeroCells]; omega)]
    simpa using hsz
  · rw [← HT.out, List.take_take, Nat.min_eq_left (by omega)]
    simpa [Value.cells] using take_splice cur.toList ((k)) (Builtin.zeroCells ((.pointer none) : Value).cells (n - k)).toList (by rw [Array.length_toList]; omega)

end Go.Proofs.Qxb6613550a
