import Derived.Test.Qxb6613550aRows
import Derived.WalkKit
import Derived.WalkSpells
import Derived.WalkLawsBesides
import Derived.Deep.QuietTactic
import Derived.BigQuiet
import Derived.RowKit3
namespace Go.Proofs.Qxb6613550a
open Go.RowKit

/-- 2 to the power d, as an integer. -/
def pw (d : Int) : Int := 2 ^ d.toNat
/-- The bound of bucket i. -/
def bd (i : Int) : Int := 500000 * pw i

theorem pw_zero : pw 0 = 1 := rfl
theorem pw_succ (d : Int) (h : 0 ≤ d) : pw (d + 1) = pw d + pw d := by
  unfold pw
  rw [show (d + 1).toNat = d.toNat + 1 from by omega, Int.pow_succ]; omega
theorem pw_pos (d : Int) : 1 ≤ pw d := by
  unfold pw
  have := Int.pow_pos (n := 2) (m := d.toNat) (by decide)
  omega
theorem pw_add (a b : Int) (ha : 0 ≤ a) (hb : 0 ≤ b) : pw (a + b) = pw a * pw b := by
  unfold pw
  rw [show (a + b).toNat = a.toNat + b.toNat from by omega, Int.pow_add]
theorem pw_mono (a b : Int) (ha : 0 ≤ a) (hb : a ≤ b) : pw a ≤ pw b := by
  have := pw_add a (b - a) ha (by omega)
  rw [show a + (b - a) = b from by omega] at this
  rw [this]
  have h1 := pw_pos a
  have h2 := pw_pos (b - a)
  have := Int.mul_le_mul_of_nonneg_left h2 (show 0 ≤ pw a by omega)
  omega
theorem pw_44 : pw 44 = 17592186044416 := by decide +kernel
theorem bd_lo (i : Int) : 500000 ≤ bd i := by unfold bd; have := pw_pos i; omega
theorem bd_hi (i : Int) (h0 : 0 ≤ i) (h : i ≤ 44) : bd i ≤ 9000000000000000000 := by
  unfold bd; have := pw_mono i 44 h0 h; rw [pw_44] at this; omega
theorem pw_hi (i : Int) (h0 : 0 ≤ i) (h : i ≤ 44) : pw i ≤ 17592186044416 := by
  have := pw_mono i 44 h0 h; rw [pw_44] at this; omega
theorem bd_mod (i : Int) : bd i % 500000 = 0 := by unfold bd; omega
theorem bd_split (i j : Int) (h0 : 0 ≤ i) (h : i ≤ j) : bd j = bd i * pw (j - i) := by
  unfold bd
  have := pw_add i (j - i) h0 (by omega)
  rw [show i + (j - i) = j from by omega] at this
  rw [this, Int.mul_assoc]
theorem bd_rem (i j : Int) (h0 : 0 ≤ i) (h : i ≤ j) : bd j % bd i = 0 := by
  rw [bd_split i j h0 h]; simp
theorem bd_quo (i j : Int) (h0 : 0 ≤ i) (h : i ≤ j) : bd j / bd i = pw (j - i) := by
  rw [bd_split i j h0 h]
  exact Int.mul_ediv_cancel_left _ (by have := bd_lo i; omega)

theorem ret_int {k : IntKind} {a b : Int} (h : a = b) : Ending.returned (.int k a) = .returned (.int k b) := by rw [h]
theorem wrap_bd (i : Int) (h0 : 0 ≤ i) (h : i ≤ 44) : wrap64 (500000 * 2 ^ i.toNat) = bd i := by
  have h1 := bd_lo i
  have h2 := bd_hi i h0 h
  have e : (500000 * 2 ^ i.toNat : Int) = bd i := rfl
  rw [e]
  unfold wrap64
  omega

theorem bound_any (i : Int) (w : World) (h0 : 0 ≤ i) (h : i ≤ 44) :
    Calls Try.prog 14 #[.int .i64 i] w fun e w' => e = .returned (.int .i64 (bd i)) ∧ w' = w := by
  go_enter Try.func14, Try.ntmps14
  go_wp2
  go_ret
  exact ⟨ret_int (wrap_bd i h0 h), rfl⟩

theorem pow_any (d : Int) (w : World) (h0 : 0 ≤ d) (h : d ≤ 44) :
    Calls Try.prog 15 #[.int .i64 d] w fun e w' => e = .returned (.int .i64 (pw d)) ∧ w' = w := by
  go_enter Try.func15, Try.ntmps15
  go_wp2
  go_loop [3, 4] (fun p k => ∃ n : Int, 0 ≤ n ∧ n ≤ d ∧ k = .int .i64 n ∧ p = .int .i64 (pw n)) (fun _ k => (d - intOf k).toNat)
  case atStart => exact ⟨0, by omega, by omega, rfl, rfl⟩
  case round =>
    obtain ⟨n, n0, nd, rfl, rfl⟩ := hrel
    have p1 := pw_pos n
    have p2 := pw_hi n n0 (by omega)
    by_cases hlt : n < d
    · go_wp2
      go_round
      case rel => exact ⟨n + 1, by omega, by omega, rfl, by rw [pw_succ n n0]⟩
      case measure => simp [intOf]; omega
    · have e : n = d := by omega
      subst e
      go_wp2
      go_ret
      exact ⟨rfl, rfl⟩

theorem bound_as (i A : Int) (w : World) (hA : bd i = A) (h0 : 0 ≤ i) (h : i ≤ 44) :
    Calls Try.prog 14 #[.int .i64 i] w fun e w' => e = .returned (.int .i64 A) ∧ w' = w := by
  subst hA; exact bound_any i w h0 h
theorem pow_as (d P : Int) (w : World) (hP : pw d = P) (h0 : 0 ≤ d) (h : d ≤ 44) :
    Calls Try.prog 15 #[.int .i64 d] w fun e w' => e = .returned (.int .i64 P) ∧ w' = w := by
  subst hP; exact pow_any d w h0 h

theorem law_le (i j A B P : Int) (w : World) (hA : bd i = A) (hB : bd j = B) (hP : pw (j - i) = P) (h1 : 0 ≤ i) (h2 : i ≤ 44) (h3 : 0 ≤ j) (h4 : j ≤ 44) (h5 : i ≤ j)
    (a1 : 500000 ≤ A) (a2 : A ≤ 9000000000000000000) (b1 : 500000 ≤ B) (b2 : B ≤ 9000000000000000000) (a3 : (A % 500000 != 0) = false) (b3 : (B % 500000 != 0) = false)
    (c1 : (B % A == 0) = true) (c2 : (B / A == P) = true) :
    Calls Try.prog 4 #[.int .i64 i, .int .i64 j] w fun e w' => e = .returned (.bool true) ∧ ∃ n, w' = w.drewN n := by
  have HA : Hid (bd i = A) := hA; have HB : Hid (bd j = B) := hB; have HP : Hid (_ = P) := hP
  clear hA hB hP
  go_enter Try.func4, Try.ntmps4
  go_wp2_with fail
  refine (bound_as i A _ HA.out (by omega) (by omega)).mono ?_
  rintro e w' ⟨rfl, rfl⟩
  go_wp2_with fail
  refine (bound_as j B _ HB.out (by omega) (by omega)).mono ?_
  rintro e w' ⟨rfl, rfl⟩
  go_wp2_with fail
  go_quiet ((go_at_call 15; exact Calls.quiet_of_same (pow_as (j - i) P _ HP.out (by omega) (by omega))))
  go_wp2
  go_ret
  exact ⟨rfl, _, rfl⟩

theorem law_gt (i j A B P : Int) (w : World) (hA : bd i = A) (hB : bd j = B) (hP : pw (i - j) = P) (h1 : 0 ≤ i) (h2 : i ≤ 44) (h3 : 0 ≤ j) (h4 : j ≤ 44) (h5 : j < i)
    (a1 : 500000 ≤ A) (a2 : A ≤ 9000000000000000000) (b1 : 500000 ≤ B) (b2 : B ≤ 9000000000000000000) (a3 : (A % 500000 != 0) = false) (b3 : (B % 500000 != 0) = false)
    (c1 : (A % B == 0) = true) (c2 : (A / B == P) = true) :
    Calls Try.prog 4 #[.int .i64 i, .int .i64 j] w fun e w' => e = .returned (.bool true) ∧ ∃ n, w' = w.drewN n := by
  have HA : Hid (bd i = A) := hA; have HB : Hid (bd j = B) := hB; have HP : Hid (_ = P) := hP
  clear hA hB hP
  go_enter Try.func4, Try.ntmps4
  go_wp2_with fail
  refine (bound_as i A _ HA.out (by omega) (by omega)).mono ?_
  rintro e w' ⟨rfl, rfl⟩
  go_wp2_with fail
  refine (bound_as j B _ HB.out (by omega) (by omega)).mono ?_
  rintro e w' ⟨rfl, rfl⟩
  go_wp2_with fail
  go_quiet ((go_at_call 15; exact Calls.quiet_of_same (pow_as (i - j) P _ HP.out (by omega) (by omega))))
  go_wp2
  go_ret
  exact ⟨rfl, _, rfl⟩

theorem law (i j : Int) (w : World) :
    Calls Try.prog 4 #[.int .i64 i, .int .i64 j] w fun e w' => e = .returned (.bool true) ∧ ∃ n, w' = w.drewN n := by
  by_cases h1 : i < 0
  · go_enter Try.func4, Try.ntmps4
    go_wp2
    go_ret
    exact ⟨rfl, 0, rfl⟩
  by_cases h2 : 44 < i
  · go_enter Try.func4, Try.ntmps4
    go_wp2
    go_ret
    exact ⟨rfl, 0, rfl⟩
  by_cases h3 : j < 0
  · go_enter Try.func4, Try.ntmps4
    go_wp2
    go_ret
    exact ⟨rfl, 0, rfl⟩
  by_cases h4 : 44 < j
  · go_enter Try.func4, Try.ntmps4
    go_wp2
    go_ret
    exact ⟨rfl, 0, rfl⟩
  by_cases h5 : i ≤ j
  · exact law_le i j _ _ _ w rfl rfl rfl (by omega) (by omega) (by omega) (by omega) h5 (bd_lo i) (bd_hi i (by omega) (by omega)) (bd_lo j) (bd_hi j (by omega) (by omega))
      (by rw [bd_mod]; rfl) (by rw [bd_mod]; rfl) (by rw [bd_rem i j (by omega) h5]; rfl) (by rw [bd_quo i j (by omega) h5]; simp)
  · exact law_gt i j _ _ _ w rfl rfl rfl (by omega) (by omega) (by omega) (by omega) (by omega) (bd_lo i) (bd_hi i (by omega) (by omega)) (bd_lo j) (bd_hi j (by omega) (by omega))
      (by rw [bd_mod]; rfl) (by rw [bd_mod]; rfl) (by rw [bd_rem j i (by omega) (by omega)]; rfl) (by rw [bd_quo j i (by omega) (by omega)]; simp)
end Go.Proofs.Qxb6613550a
