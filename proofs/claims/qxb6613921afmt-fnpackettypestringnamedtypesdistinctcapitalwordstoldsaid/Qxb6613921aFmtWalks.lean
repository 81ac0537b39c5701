import Derived.Test.Qxb6613921aFmtRows
import Derived.WalkKit
import Derived.WalkSpells
import Derived.WalkLawsBesides
import Derived.Deep.QuietTactic
import Derived.BigQuiet
import Derived.RowKit3
namespace Go.Proofs.Qxb6613921aFmt
open Go.RowKit

/-- The text of packet type 1 + n. -/
def nameL : Nat → List UInt8
  | 0 => [70, 79, 76, 76, 79, 87, 69, 82, 73, 78, 70, 79]
  | 1 => [76, 69, 65, 68, 69, 82, 73, 78, 70, 79]
  | 2 => [65, 67, 75, 69, 80, 79, 67, 72]
  | 3 => [78, 69, 87, 76, 69, 65, 68, 69, 82]
  | 4 => [65, 67, 75]
  | 5 => [85, 80, 84, 79, 68, 65, 84, 69]
  | 6 => [80, 73, 78, 71]
  | 7 => [68, 73, 70, 70]
  | 8 => [83, 78, 65, 80]
  | 9 => [82, 69, 67, 79, 82, 68]
  | 10 => [80, 82, 79, 80, 79, 83, 65, 76]
  | 11 => [67, 79, 77, 77, 73, 84]
  | 12 => [82, 69, 81, 85, 69, 83, 84]
  | _ => [82, 69, 83, 85, 76, 84]
def name (a : Int) : ByteArray := ⟨(nameL (a - 1).toNat).toArray⟩

theorem string_any (a : Int) (w : World) (h0 : 1 ≤ a) (h : a ≤ 14) :
    Calls Tryf.prog 9 #[.int .i32 a] w fun e w' => e = .returned (.string (name a)) ∧ w' = w := by
  obtain rfl | rfl | rfl | rfl | rfl | rfl | rfl | rfl | rfl | rfl | rfl | rfl | rfl | rfl : a = 1 ∨ a = 2 ∨ a = 3 ∨ a = 4 ∨ a = 5 ∨ a = 6 ∨ a = 7 ∨ a = 8 ∨ a = 9 ∨ a = 10 ∨ a = 11 ∨ a = 12 ∨ a = 13 ∨ a = 14 := by omega
  all_goals
    go_enter Tryf.func9, Tryf.ntmps9
    go_wp2
    go_ret
    exact ⟨rfl, rfl⟩

theorem zz_any (a : Int) (w : World) (h0 : 1 ≤ a) (h : a ≤ 14) :
    Calls Tryf.prog 5 #[.int .i32 a] w fun e w' => e = .returned (.string (name a)) ∧ w' = w := by
  go_enter Tryf.func5, Tryf.ntmps5
  go_wp2_with (go_at_call 9; refine (string_any _ _ h0 h).mono ?_; rintro e w' ⟨rfl, rfl⟩)
  go_ret
  exact ⟨rfl, rfl⟩

theorem capital_any (s : ByteArray) (w : World) (h0 : 0 < s.size) (hm : s.size ≤ 12) (hc : ∀ k (h : k < s.size), 65 ≤ (s[k].toNat : Int) ∧ (s[k].toNat : Int) ≤ 90) :
    Calls Tryf.prog 6 #[.string s] w fun e w' => e = .returned (.bool true) ∧ w' = w := by
  have hz : ((s.size : Int) == 0) = false := beq_eq_false_iff_ne.2 (by omega)
  have HC : Hid (∀ k (h : k < s.size), 65 ≤ (s[k].toNat : Int) ∧ (s[k].toNat : Int) ≤ 90) := hc
  clear hc
  go_enter Tryf.func6, Tryf.ntmps6
  go_wp2
  go_loop [3] (fun i => ∃ k : Nat, k ≤ s.size ∧ i = .int .i64 k) (fun i => s.size - (intOf i).toNat)
  case atStart => exact ⟨0, Nat.zero_le _, rfl⟩
  case round =>
    obtain ⟨k, hk, rfl⟩ := hrel
    by_cases hlt : k < s.size
    · obtain ⟨c1, c2⟩ := HC.out k hlt
      go_wp2
      go_round
      case rel => exact ⟨k + 1, by omega, by go_num⟩
      case measure => simp [intOf]; omega
    · go_wp2
      go_ret
      exact ⟨rfl, rfl⟩

theorem nameL_ok : ∀ n : Fin 14, 0 < (nameL n.val).length ∧ (nameL n.val).length ≤ 12 ∧ ∀ c ∈ nameL n.val, 65 ≤ c.toNat ∧ c.toNat ≤ 90 := by decide +kernel
theorem nameL_inj : ∀ m n : Fin 14, nameL m.val = nameL n.val → m = n := by decide +kernel
theorem name_size (a : Int) (h0 : 1 ≤ a) (h : a ≤ 14) : 0 < (name a).size ∧ (name a).size ≤ 12 := by
  have := nameL_ok ⟨(a - 1).toNat, by omega⟩
  exact ⟨this.1, this.2.1⟩
theorem name_cap (a : Int) (h0 : 1 ≤ a) (h : a ≤ 14) : ∀ k (h : k < (name a).size), 65 ≤ ((name a)[k].toNat : Int) ∧ ((name a)[k].toNat : Int) ≤ 90 := by
  intro k hk
  have := (nameL_ok ⟨(a - 1).toNat, by omega⟩).2.2 ((name a)[k]) (by
    show (nameL (a - 1).toNat).toArray[k] ∈ nameL (a - 1).toNat
    simp)
  omega
theorem name_ne (a b : Int) (h0 : 1 ≤ a) (h : a ≤ 14) (g0 : 1 ≤ b) (g : b ≤ 14) (hne : a ≠ b) : name a ≠ name b := by
  intro e
  have e1 : nameL (a - 1).toNat = nameL (b - 1).toNat := by
    have := congrArg (fun x : ByteArray => x.data.toList) e
    simpa [name] using this
  have := nameL_inj ⟨(a - 1).toNat, by omega⟩ ⟨(b - 1).toNat, by omega⟩ e1
  simp at this
  omega

theorem ret_bool {x y : Bool} (h : x = y) : Ending.returned (.bool x) = .returned (.bool y) := by rw [h]
theorem same (a b : Int) (h0 : 1 ≤ a) (h : a ≤ 14) (g0 : 1 ≤ b) (g : b ≤ 14) : (((name a).toList == (name b).toList) == (a == b)) = true := by
  by_cases e : a = b
  · subst e; simp
  · have hn := name_ne a b h0 h g0 g e
    have h1 : ((name a).toList == (name b).toList) = false := by
      rw [beq_eq_false_iff_ne]
      intro h'
      rw [ByteArray.toList_eq, ByteArray.toList_eq] at h'
      exact hn (WideShapes.bytes_inj h')
    have h2 : (a == b) = false := beq_eq_false_iff_ne.2 e
    rw [h1, h2]; rfl

theorem law_in (a b : Int) (w : World) (h1 : 1 ≤ a) (h2 : a ≤ 14) (h3 : 1 ≤ b) (h4 : b ≤ 14) :
    Calls Tryf.prog 3 #[.int .i32 a, .int .i32 b] w fun e w' => e = .returned (.bool true) ∧ w' = w := by
  go_enter Tryf.func3, Tryf.ntmps3
  go_wp2_with fail
  refine (zz_any a _ h1 h2).mono ?_
  rintro e w' ⟨rfl, rfl⟩
  go_wp2_with fail
  refine (zz_any b _ h3 h4).mono ?_
  rintro e w' ⟨rfl, rfl⟩
  go_wp2_with fail
  refine (capital_any (name a) _ (name_size a h1 h2).1 (name_size a h1 h2).2 (name_cap a h1 h2)).mono ?_
  rintro e w' ⟨rfl, rfl⟩
  go_wp2_with fail
  refine (capital_any (name b) _ (name_size b h3 h4).1 (name_size b h3 h4).2 (name_cap b h3 h4)).mono ?_
  rintro e w' ⟨rfl, rfl⟩
  go_wp2
  go_ret
  exact ⟨ret_bool (same a b h1 h2 h3 h4), rfl⟩

theorem law (a b : Int) (w : World) :
    Calls Tryf.prog 3 #[.int .i32 a, .int .i32 b] w fun e w' => e = .returned (.bool true) ∧ w' = w := by
  by_cases h1 : a < 1
  · go_enter Tryf.func3, Tryf.ntmps3
    go_wp2
    go_ret
    exact ⟨rfl, rfl⟩
  by_cases h2 : 14 < a
  · go_enter Tryf.func3, Tryf.ntmps3
    go_wp2
    go_ret
    exact ⟨rfl, rfl⟩
  by_cases h3 : b < 1
  · go_enter Tryf.func3, Tryf.ntmps3
    go_wp2
    go_ret
    exact ⟨rfl, rfl⟩
  by_cases h4 : 14 < b
  · go_enter Tryf.func3, Tryf.ntmps3
    go_wp2
    go_ret
    exact ⟨rfl, rfl⟩
  exact law_in a b w (by omega) (by omega) (by omega) (by omega)
end Go.Proofs.Qxb6613921aFmt
