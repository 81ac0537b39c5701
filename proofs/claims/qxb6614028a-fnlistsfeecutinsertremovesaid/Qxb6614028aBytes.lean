import Derived.Test.Qxb6614028aParts
namespace Go.Proofs.Qxb6614028a
open Go.RowKit

theorem nth_size (ss : List ByteArray) (k : Nat) (hz : ∀ s ∈ ss, s.size ≤ maxLen) : ((nth ss k).size : Int) ≤ 9223372036854775807 := by
  unfold nth
  by_cases h : k < ss.length
  · have := hz _ (List.getElem_mem h)
    unfold maxLen at this
    simp [List.getD, h]; omega
  · simp [List.getD, Nat.not_lt.1 h]

set_option maxHeartbeats 800000 in
/-- zzBytes answers one bool and turns nothing. -/
theorem bytes_any (v0 v1 : Value) (n0 n1 : Nat) (s0 s1 : List ByteArray) (nm : ByteArray) (k : Int) (w : World) (h0 : Strs w v0 n0 s0) (h1 : Strs w v1 n1 s1) (hnm : nm.size ≤ maxLen) :
    Calls Try.prog 4 #[v0, v1, .string nm, .int .i64 k] w fun e w' => (e = .returned (.bool true) ∨ e = .returned (.bool false)) ∧ w' = w := by
  obtain ⟨⟨a0, cap0, rfl⟩, l0, m0, z0, g0⟩ := h0
  obtain ⟨⟨a1, cap1, rfl⟩, l1, m1, z1, g1⟩ := h1
  have L0 : (n0 : Int) ≤ 9223372036854775807 := by unfold maxLen at m0; omega
  have L1 : (n1 : Int) ≤ 9223372036854775807 := by unfold maxLen at m1; omega
  have LN : (nm.size : Int) ≤ 9223372036854775807 := by unfold maxLen at hnm; omega
  have G0 : Hid (∀ i, i < n0 → ∃ x : Addr, (∀ w', (Instr.indexAt 22 (.slice a0 n0 cap0) (.int .i64 i)).run Try.prog w' = .ok (.pointer (some x)) w') ∧ x.block < w.heap.size ∧ w.cell? x = some (.string (nth s0 i))) := g0
  have G1 : Hid (∀ i, i < n1 → ∃ x : Addr, (∀ w', (Instr.indexAt 22 (.slice a1 n1 cap1) (.int .i64 i)).run Try.prog w' = .ok (.pointer (some x)) w') ∧ x.block < w.heap.size ∧ w.cell? x = some (.string (nth s1 i))) := g1
  have Z0 : Hid (∀ i, ((nth s0 i).size : Int) ≤ 9223372036854775807) := fun i => nth_size s0 i z0
  have Z1 : Hid (∀ i, ((nth s1 i).size : Int) ≤ 9223372036854775807) := fun i => nth_size s1 i z1
  clear g0 g1 z0 z1 l0 l1 m0 m1 hnm
  by_cases c0 : (1048576 : Int) < n0
  · go_enter Try.func4, Try.ntmps4
    go_wp2
    go_ret
    exact ⟨.inr rfl, rfl⟩
  go_enter Try.func4, Try.ntmps4
  go_wp2
  go_loop [9, 10] (fun z i => ∃ (t : Nat) (q : Int), t ≤ n0 ∧ i = .int .i64 t ∧ z = .int .i64 q ∧ 0 ≤ q ∧ q ≤ 1048576) (fun _ i => n0 - (intOf i).toNat)
  case atStart => exact ⟨0, n0, Nat.zero_le _, rfl, rfl, by omega, by omega⟩
  case round =>
    obtain ⟨t, q, ht, rfl, rfl, q0, q1⟩ := hrel
    by_cases hlt : t < n0
    · obtain ⟨x, r, hx, hc⟩ := G0.out t hlt
      have hz := Z0.out t
      by_cases c1 : (1048576 : Int) < (nth s0 t).size
      · go_wp2
        go_ret
        exact ⟨.inr rfl, rfl⟩
      by_cases c2 : (1048576 : Int) < q + (nth s0 t).size
      · go_wp2
        go_ret
        exact ⟨.inr rfl, rfl⟩
      go_wp2
      go_round
      case rel => exact ⟨t + 1, q + (nth s0 t).size, by omega, by go_num, rfl, by omega, by omega⟩
      case measure => simp [intOf]; omega
    · by_cases c1 : (1048576 : Int) < n1
      · go_wp2
        go_ret
        exact ⟨.inr rfl, rfl⟩
      by_cases c2 : (1048576 : Int) < q + n1
      · go_wp2
        go_ret
        exact ⟨.inr rfl, rfl⟩
      go_wp2
      go_loop [9, 11] (fun z i => ∃ (t : Nat) (q : Int), t ≤ n1 ∧ i = .int .i64 t ∧ z = .int .i64 q ∧ 0 ≤ q ∧ q ≤ 1048576) (fun _ i => n1 - (intOf i).toNat)
      case atStart => exact ⟨0, q + n1, Nat.zero_le _, rfl, rfl, by omega, by omega⟩
      case round =>
        obtain ⟨t', q', ht', rfl, rfl, q0', q1'⟩ := hrel
        by_cases hlt' : t' < n1
        · obtain ⟨x, r, hx, hc⟩ := G1.out t' hlt'
          have hz := Z1.out t'
          by_cases c3 : (1048576 : Int) < (nth s1 t').size
          · go_wp2
            go_ret
            exact ⟨.inr rfl, rfl⟩
          by_cases c4 : (1048576 : Int) < q' + (nth s1 t').size
          · go_wp2
            go_ret
            exact ⟨.inr rfl, rfl⟩
          go_wp2
          go_round
          case rel => exact ⟨t' + 1, q' + (nth s1 t').size, by omega, by go_num, rfl, by omega, by omega⟩
          case measure => simp [intOf]; omega
        · by_cases c3 : (1048576 : Int) < nm.size
          · go_wp2
            go_ret
            exact ⟨.inr rfl, rfl⟩
          by_cases c4 : (1048576 : Int) < q' + nm.size
          · go_wp2
            go_ret
            exact ⟨.inr rfl, rfl⟩
          go_wp2
          go_ret
          exact ⟨.inl rfl, rfl⟩
end Go.Proofs.Qxb6614028a
