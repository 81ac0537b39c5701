import Derived.Test.Qxb6613516aRows
import Derived.WalkKit
import Derived.WalkSpells
import Derived.WalkLawsBesides
import Derived.Deep.QuietTactic
import Derived.BigQuiet
import Derived.Deep.RegionHeld3
import Derived.RowKit3
namespace Go.Proofs.Qxb6613516a
open Go.RowKit

/-- errors.New lays one block and hands its address out. -/
theorem new_any (s : ByteArray) (w : World) :
    Calls Try.prog 11 #[.string s] w fun e w' => e = .returned (.iface 40 (.pointer (some ⟨w.heap.size, 0, none⟩))) ∧ w' = w.alloc (.cells #[.string s] 42) := by
  go_enter Try.func11, Try.ntmps11
  go_wp2
  go_ret
  exact ⟨rfl, rfl⟩

/-- (*errors.errorString).Error reads its field. -/
theorem text_any (a : Addr) (s : ByteArray) (w : World) (h : w.cell? a = some (.string s)) :
    Calls Try.prog 31 #[.pointer (some a)] w fun e w' => e = .returned (.string s) ∧ w' = w := by
  go_enter Try.func31, Try.ntmps31
  go_wp2
  go_ret
  exact ⟨rfl, rfl⟩

theorem method_err (a : Addr) (w : World) : (method 159 40 (.pointer (some a)) "Error").run Try.prog w = .ok (31, .pointer (some a)) w := by kernel_rfl

/-- (*fault.Error).Error hands on the text of its cause. -/
theorem error_any (b : Nat) (a : Addr) (s : ByteArray) (w : World) (h3 : w.cell? ⟨b, 3, none⟩ = some (.iface 40 (.pointer (some a)))) (h : w.cell? a = some (.string s)) :
    Calls Try.prog 12 #[.pointer (some ⟨b, 0, none⟩)] w fun e w' => e = .returned (.string s) ∧ w' = w := by
  have hm := method_err
  go_enter Try.func12, Try.ntmps12
  go_wp2_with (go_at_call 31; refine (text_any _ _ _ h).mono ?_; rintro e w' ⟨rfl, rfl⟩)
  go_ret
  exact ⟨rfl, rfl⟩

/-- (fault.Problem).Err with a cause. -/
theorem err_cause (p : ByteArray) (l c : Int) (m : ByteArray) (x : Value) (w : World) :
    Calls Try.prog 10 #[.agg #[.string p, .int .i64 l, .int .i64 c, .string m], .iface 40 x] w fun e w' =>
      e = .returned (.iface 35 (.pointer (some ⟨w.heap.size + 1, 0, none⟩))) ∧ w' = (w.alloc (.cells #[.string p, .int .i64 l, .int .i64 c, .string m] 27)).alloc (.cells #[.int .i64 c, .string p, .int .i64 l, .iface 40 x] 38) := by
  go_enter Try.func10, Try.ntmps10
  go_wp2
  go_ret
  exact ⟨rfl, rfl⟩

theorem err_nil (p : ByteArray) (l c : Int) (m : ByteArray) (w : World) :
    Calls Try.prog 10 #[.agg #[.string p, .int .i64 l, .int .i64 c, .string m], .nilIface] w fun e w' =>
      e = .returned (.iface 35 (.pointer (some ⟨w.heap.size + 1 + 1, 0, none⟩))) ∧ w' = ((w.alloc (.cells #[.string p, .int .i64 l, .int .i64 c, .string m] 27)).alloc (.cells #[.string m] 42)).alloc (.cells #[.int .i64 c, .string p, .int .i64 l, .iface 40 (.pointer (some ⟨w.heap.size + 1, 0, none⟩))] 38) := by
  go_enter Try.func10, Try.ntmps10
  go_wp2_with (go_at_call 11; refine (new_any _ _).mono ?_; rintro e w' ⟨rfl, rfl⟩)
  go_ret
  exact ⟨rfl, rfl⟩

theorem assert_err (x : Value) (w : World) : (Instr.typeAssert (.iface 35 x) 32 35 true).run Try.prog w = .ok (.tuple #[x, .bool true]) w := by kernel_rfl

/-- zzParts at an error of this package's make whose cause is one of errors.New's. -/
theorem parts_any (b : Nat) (a : Addr) (c l : Int) (p s : ByteArray) (w : World)
    (h0 : w.cell? ⟨b, 0, none⟩ = some (.int .i64 c)) (h1 : w.cell? ⟨b, 1, none⟩ = some (.string p)) (h2 : w.cell? ⟨b, 2, none⟩ = some (.int .i64 l))
    (h3 : w.cell? ⟨b, 3, none⟩ = some (.iface 40 (.pointer (some a)))) (h : w.cell? a = some (.string s)) :
    Calls Try.prog 9 #[.iface 35 (.pointer (some ⟨b, 0, none⟩))] w fun e w' =>
      e = .returned (.tuple #[.bool true, .int .i64 c, .string p, .int .i64 l, .bool true, .string s]) ∧ ∃ n, w' = w.drewN n := by
  have ha := assert_err
  go_enter Try.func9, Try.ntmps9
  go_wp2
  go_quiet ((go_at_call 12; exact Calls.quiet_of_same (error_any b a s _ (by go_simp) (by go_simp))))
  go_wp2
  exact bodyPost_ret (v := .tuple #[.bool true, .int .i64 c, .string p, .int .i64 l, .bool true, .string s]) (by simp [results, Try.results9, go_sem]) rfl ⟨rfl, _, rfl⟩

/-- ZZProblemErrNilParts. -/
theorem nilParts_any (p : ByteArray) (l c : Int) (m : ByteArray) (w : World) :
    Calls Try.prog 6 #[.agg #[.string p, .int .i64 l, .int .i64 c, .string m]] w fun e w' =>
      e = .returned (.tuple #[.bool true, .int .i64 c, .string p, .int .i64 l, .bool true, .string m]) ∧ ∃ (o1 o2 o3 o4 : Array Value) (n : Nat), w' = ((((w.alloc (.cells o1 27)).alloc (.cells o2 27)).alloc (.cells o3 42)).alloc (.cells o4 38)).drewN n := by
  go_enter Try.func6, Try.ntmps6
  go_wp2_with fail
  refine (err_nil p l c m _).mono ?_
  rintro e w' ⟨rfl, rfl⟩
  go_wp2_with fail
  refine (parts_any (w.heap.size + 1 + 1 + 1) ⟨w.heap.size + 1 + 1, 0, none⟩ c l p m _ (by go_simp) (by go_simp) (by go_simp) (by go_simp) (by go_simp)).mono ?_
  rintro e w' ⟨rfl, n, rfl⟩
  go_wp2
  exact bodyPost_ret (v := .tuple #[.bool true, .int .i64 c, .string p, .int .i64 l, .bool true, .string m]) (by simp [results, Try.results6, go_sem]) rfl ⟨rfl, _, _, _, _, _, rfl⟩

/-- ZZProblemErrCauseParts. -/
theorem causeParts_any (p : ByteArray) (l c : Int) (m x : ByteArray) (w : World) :
    Calls Try.prog 8 #[.agg #[.string p, .int .i64 l, .int .i64 c, .string m], .string x] w fun e w' =>
      e = .returned (.tuple #[.bool true, .int .i64 c, .string p, .int .i64 l, .bool true, .string x]) ∧ ∃ (o1 o2 o3 o4 : Array Value) (n : Nat), w' = ((((w.alloc (.cells o1 27)).alloc (.cells o2 42)).alloc (.cells o3 27)).alloc (.cells o4 38)).drewN n := by
  go_enter Try.func8, Try.ntmps8
  go_wp2_with fail
  go_region_held3 (fun w' => w'.cell? ⟨w.heap.size, 0, none⟩ = some (.string p) ∧ w'.cell? ⟨w.heap.size, 1, none⟩ = some (.int .i64 l) ∧ w'.cell? ⟨w.heap.size, 2, none⟩ = some (.int .i64 c) ∧ w'.cell? ⟨w.heap.size, 3, none⟩ = some (.string m)) (simp [go_sem, World.cell?_alloc_past])
    (first
      | (go_at_call 11; refine (new_any x _).mono ?_; rintro e w' ⟨rfl, rfl⟩)
      | (go_at_call 10; refine (err_cause p l c m _ _).mono ?_; rintro e w' ⟨rfl, rfl⟩)
      | (go_at_call 9; refine (parts_any (w.heap.size + 1 + 1 + 1) ⟨w.heap.size + 1, 0, none⟩ c l p x _ (by go_simp) (by go_simp) (by go_simp) (by go_simp) (by go_simp)).mono ?_; rintro e w' ⟨rfl, n, rfl⟩))
  go_wp2
  exact bodyPost_ret (v := .tuple #[.bool true, .int .i64 c, .string p, .int .i64 l, .bool true, .string x]) (by simp [results, Try.results8, go_sem]) rfl ⟨rfl, _, _, _, _, _, rfl⟩

/-- zzBytes of the first law answers one bool and turns nothing. -/
theorem bytes1_any (a0 : ByteArray) (a1 a2 : Int) (a3 : ByteArray) (w0 : a0.size ≤ maxLen) (w3 : a3.size ≤ maxLen) (w : World) :
    Calls Try.prog 5 #[.string a0, .int .i64 a1, .int .i64 a2, .string a3] w fun e w' => (e = .returned (.bool true) ∨ e = .returned (.bool false)) ∧ w' = w := by
  unfold maxLen at w0 w3
  by_cases h0 : (1048576 : Int) < a0.size
  · go_enter Try.func5, Try.ntmps5
    go_wp2
    go_ret
    exact ⟨.inr rfl, rfl⟩
  · by_cases h3 : (1048576 : Int) < a3.size
    · go_enter Try.func5, Try.ntmps5
      go_wp2
      go_ret
      exact ⟨.inr rfl, rfl⟩
    · by_cases h4 : (1048576 : Int) < a0.size + a3.size
      · go_enter Try.func5, Try.ntmps5
        go_wp2
        go_ret
        exact ⟨.inr rfl, rfl⟩
      · go_enter Try.func5, Try.ntmps5
        go_wp2
        go_ret
        exact ⟨.inl rfl, rfl⟩

/-- zzBytes of the second law. -/
theorem bytes2_any (a0 : ByteArray) (a1 a2 : Int) (a3 a4 : ByteArray) (w0 : a0.size ≤ maxLen) (w3 : a3.size ≤ maxLen) (w4 : a4.size ≤ maxLen) (w : World) :
    Calls Try.prog 7 #[.string a0, .int .i64 a1, .int .i64 a2, .string a3, .string a4] w fun e w' => (e = .returned (.bool true) ∨ e = .returned (.bool false)) ∧ w' = w := by
  unfold maxLen at w0 w3 w4
  by_cases h0 : (1048576 : Int) < a0.size
  · go_enter Try.func7, Try.ntmps7
    go_wp2
    go_ret
    exact ⟨.inr rfl, rfl⟩
  by_cases h3 : (1048576 : Int) < a3.size
  · go_enter Try.func7, Try.ntmps7
    go_wp2
    go_ret
    exact ⟨.inr rfl, rfl⟩
  by_cases h4 : (1048576 : Int) < a0.size + a3.size
  · go_enter Try.func7, Try.ntmps7
    go_wp2
    go_ret
    exact ⟨.inr rfl, rfl⟩
  by_cases h5 : (1048576 : Int) < a4.size
  · go_enter Try.func7, Try.ntmps7
    go_wp2
    go_ret
    exact ⟨.inr rfl, rfl⟩
  by_cases h6 : (1048576 : Int) < a0.size + a3.size + a4.size
  · go_enter Try.func7, Try.ntmps7
    go_wp2
    go_ret
    exact ⟨.inr rfl, rfl⟩
  · go_enter Try.func7, Try.ntmps7
    go_wp2
    go_ret
    exact ⟨.inl rfl, rfl⟩
end Go.Proofs.Qxb6613516a
