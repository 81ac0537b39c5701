/-
  The law's own helpers: zzContains, zzDistinctCount, zzMin, zzMaxOne, zzBytes.
-/
import Derived.Test.Qxb6613550aThree
import Derived.BigQuiet
namespace Go.Proofs.Qxb6613550a
open Go.RowKit
set_option linter.unusedVariables false

/-- A slice of uint64 that reads as xs. -/
def Arr (w : World) (a : Option Addr) (xs : List Int) : Prop :=
  xs = [] ∨ ∃ x, a = some x ∧ ∀ i, i < xs.length → w.cell? (x.add i) = some (.int .u64 (xs.getD i 0))

def hasX (xs : List Int) (v : Int) : Bool := xs.any (fun y => y == v)

theorem hasX_take {xs : List Int} {v : Int} {i : Nat} (hi : i < xs.length) : hasX (xs.take (i + 1)) v = (hasX (xs.take i) v || (xs.getD i 0 == v)) := by
  rw [List.take_succ_eq_append_getElem hi]
  simp only [hasX, List.any_append, List.any_cons, List.any_nil, Bool.or_false]
  rw [List.getD_eq_getElem?_getD, List.getElem?_eq_getElem hi]; rfl

theorem hasX_stop {xs : List Int} {v : Int} {i : Nat} (hi : i < xs.length) (h : xs.getD i 0 = v) : hasX xs v = true := by
  simp only [hasX, List.any_eq_true]
  exact ⟨xs[i], List.getElem_mem hi, by simpa [List.getD_eq_getElem?_getD, hi] using h⟩

set_option maxHeartbeats 1600000 in
theorem contains_any (a : Option Addr) (n cap : Nat) (xs : List Int) (v : Int) (w : World) (hn : xs.length = n) (hn2 : n ≤ 5000) (hA : Arr w a xs) :
    Calls Try.prog 6 #[.slice a n cap, .int .u64 v] w fun e w' => e = .returned (.bool (hasX xs v)) ∧ w' = w := by
  have HA : Hid (Arr w a xs) := hA
  have HN : Hid (xs.length = n) := hn
  clear hA hn
  go_enter Try.func6, Try.ntmps6
  go_wp2
  go_loop [5] (fun s => ∃ i : Nat, i ≤ n ∧ s = .int .i64 i ∧ Hid (hasX (xs.take i) v = false)) (fun s => n - (intOf s).toNat)
  case atStart => exact ⟨0, Nat.zero_le _, rfl, by simp [hasX, Hid]⟩
  case round =>
    obtain ⟨i, hi, rfl, hin⟩ := hrel
    by_cases hlt : i < n
    · have hx : i < xs.length := by rw [HN.out]; exact hlt
      rcases HA.out with hnil | ⟨x, rfl, hc⟩
      · rw [hnil] at hx; simp at hx
      have hci := hc i hx
      obtain ⟨y, hy⟩ : ∃ y, y = xs.getD i 0 := ⟨_, rfl⟩
      rw [← hy] at hci
      have HY : Hid (y = xs.getD i 0) := hy
      clear hc hy
      by_cases he : y = v
      · subst he
        go_wp2
        go_ret
        exact ⟨by rw [hasX_stop hx HY.out.symm]; rfl, rfl⟩
      · go_wp2
        go_round
        case rel => exact ⟨i + 1, by omega, by go_num, by show hasX _ _ = false; rw [hasX_take hx, hin.out, ← HY.out]; simpa using he⟩
        case measure => simp [intOf]; omega
    · obtain rfl : i = n := by omega
      go_wp2
      go_ret
      refine ⟨?_, rfl⟩
      have := hin.out
      rw [← HN.out, List.take_length] at this
      rw [this]; rfl

/-- How many of the first k come for the first time at their place. -/
def dcTo (xs : List Int) : Nat → Nat
  | 0 => 0
  | k + 1 => dcTo xs k + (if hasX (xs.take k) (xs.getD k 0) then 0 else 1)
theorem dcTo_le (xs : List Int) (k : Nat) : dcTo xs k ≤ k := by
  induction k with
  | zero => exact Nat.le_refl _
  | succ k ih => simp only [dcTo]; split <;> omega

theorem Arr.drewN {w : World} {a : Option Addr} {xs : List Int} (h : Arr w a xs) (m : Nat) : Arr (w.drewN m) a xs := h

set_option maxHeartbeats 1600000 in
theorem distinct_any (a : Option Addr) (n cap : Nat) (xs : List Int) (w : World) (hn : xs.length = n) (hn2 : n ≤ 5000) (hA : Arr w a xs) :
    Calls Try.prog 8 #[.slice a n cap] w fun e w' => e = .returned (.int .i64 (dcTo xs n)) ∧ ∃ m, w' = w.drewN m := by
  have HA : Hid (Arr w a xs) := hA
  have HN : Hid (xs.length = n) := hn
  clear hA hn
  go_enter Try.func8, Try.ntmps8
  go_wp2
  go_loopw [3, 4, 5, 6] (fun s3 s4 s5 s6 wr => ∃ k : Nat, k ≤ n ∧ s4 = .int .i64 k ∧ s3 = .int .i64 (dcTo xs k) ∧ ∃ m, wr = w.drewN m) (fun _ s _ _ _ => n - (intOf s).toNat)
  case atStart => exact ⟨0, Nat.zero_le _, rfl, rfl, 0, rfl⟩
  case round =>
    obtain ⟨k, hk, rfl, rfl, m, rfl⟩ := hrel
    by_cases hlt : k < n
    · have hx : k < xs.length := by rw [HN.out]; exact hlt
      rcases HA.out with hnil | ⟨x, rfl, hc⟩
      · rw [hnil] at hx; simp at hx
      obtain ⟨y, hy⟩ : ∃ y, y = xs.getD k 0 := ⟨_, rfl⟩
      have HY : Hid (y = xs.getD k 0) := hy
      have hck : w.cell? (x.add k) = some (.int .u64 y) := by rw [hy]; exact hc k hx
      have HC : Hid (∀ i, i < xs.length → w.cell? (x.add i) = some (.int .u64 (xs.getD i 0))) := hc
      obtain ⟨d, hd⟩ : ∃ d, d = dcTo xs k := ⟨_, rfl⟩
      have hdle : d ≤ k := by rw [hd]; exact dcTo_le _ _
      have HD : Hid (d = dcTo xs k) := hd
      rw [← hd]
      clear hy hc hd
      go_wp2
      go_loopw [5, 6] (fun s5 s6 wr => ∃ j : Nat, j ≤ k ∧ s5 = .bool false ∧ s6 = .int .i64 j ∧ Hid (hasX (xs.take j) y = false) ∧ ∃ m, wr = w.drewN m) (fun _ s _ => k - (intOf s).toNat)
      case atStart => exact ⟨0, Nat.zero_le _, rfl, rfl, by simp [hasX, Hid], m, rfl⟩
      case round =>
        obtain ⟨j, hj, rfl, rfl, hno, m2, rfl⟩ := hrel
        by_cases hjk : j < k
        · have hjx : j < xs.length := by rw [HN.out]; omega
          have hjn : j < n := by omega
          obtain ⟨u, hu⟩ : ∃ u, u = xs.getD j 0 := ⟨_, rfl⟩
          have HU : Hid (u = xs.getD j 0) := hu
          have hcj : w.cell? (x.add j) = some (.int .u64 u) := by rw [hu]; exact HC.out j hjx
          clear hu
          by_cases he : u = y
          · subst he
            go_wp2
            go_quiet (fail)
            go_wp2
            go_roundw
            case rel =>
              refine ⟨k + 1, by omega, by go_num, ?_, _, rfl⟩
              have hh : hasX (xs.take k) u = true := hasX_stop (i := j) (by rw [List.length_take]; omega) (by rw [HU.out]; simp [List.getD_eq_getElem?_getD, hjk])
              simp only [dcTo]; rw [← HY.out, hh, HD.out]; simp
            case measure => simp [intOf]; omega
          · go_wp2
            go_quiet (fail)
            go_wp2
            go_roundw
            case rel => exact ⟨j + 1, by omega, rfl, by go_num, by show hasX _ _ = false; rw [hasX_take hjx, hno.out, ← HU.out]; simpa using he, _, rfl⟩
            case measure => simp [intOf]; omega
        · obtain rfl : j = k := by omega
          go_wp2
          go_roundw
          case rel =>
            refine ⟨j + 1, by omega, by go_num, ?_, _, rfl⟩
            simp only [dcTo]; rw [← HY.out, hno.out, ← HD.out]; simp
          case measure => simp [intOf]; omega
    · obtain rfl : k = n := by omega
      go_wp2
      go_ret
      exact ⟨rfl, m, rfl⟩

theorem zzMin_any (a b : Int) (w : World) : Calls Try.prog 12 #[.int .i64 a, .int .i64 b] w fun e w' => e = .returned (.int .i64 (min a b)) ∧ w' = w := by
  by_cases h : a < b
  · have hm : min a b = a := by omega
    rw [hm]
    clear hm
    go_enter Try.func12, Try.ntmps12
    go_wp2
    go_ret
    exact ⟨rfl, rfl⟩
  · have hm : min a b = b := by omega
    rw [hm]
    clear hm
    go_enter Try.func12, Try.ntmps12
    go_wp2
    go_ret
    exact ⟨rfl, rfl⟩

theorem zzMaxOne_any (a : Int) (w : World) : Calls Try.prog 13 #[.int .i64 a] w fun e w' => e = .returned (.int .i64 (max a 1)) ∧ w' = w := by
  by_cases h : a < 1
  · have hm : max a 1 = 1 := by omega
    rw [hm]
    clear hm
    go_enter Try.func13, Try.ntmps13
    go_wp2
    go_ret
    exact ⟨rfl, rfl⟩
  · have hm : max a 1 = a := by omega
    rw [hm]
    clear hm
    go_enter Try.func13, Try.ntmps13
    go_wp2
    go_ret
    exact ⟨rfl, rfl⟩

/-- zzBytes answers some Bool and touches nothing. -/
theorem zzBytes_any (a0 a1 : Option Addr) (n0 c0 n1 c1 : Nat) (x l : Int) (w : World) (m0 : n0 ≤ maxLen) (m1 : n1 ≤ maxLen) :
    Calls Try.prog 5 #[.slice a0 n0 c0, .slice a1 n1 c1, .int .u64 x, .int .i64 l] w fun e w' => ∃ r, e = .returned (.bool r) ∧ w' = w := by
  unfold maxLen at m0 m1
  by_cases h1 : n0 > 1048576
  · go_enter Try.func5, Try.ntmps5
    go_wp2
    go_ret
    exact ⟨_, rfl, rfl⟩
  · by_cases h2 : n1 > 1048576
    · go_enter Try.func5, Try.ntmps5
      go_wp2
      go_ret
      exact ⟨_, rfl, rfl⟩
    · by_cases h3 : n0 + n1 > 1048576
      · go_enter Try.func5, Try.ntmps5
        go_wp2
        go_ret
        exact ⟨_, rfl, rfl⟩
      · go_enter Try.func5, Try.ntmps5
        go_wp2
        go_ret
        exact ⟨_, rfl, rfl⟩
end Go.Proofs.Qxb6613550a
