/-
  zzBuild: the sessions of clients and sequence numbers.
-/
import Derived.Test.Qxb6613550aZz
import Derived.Deep.RegionHeldLaw
import Derived.Deep.CutRange
import Derived.OwnWalk
namespace Go.Proofs.Qxb6613550a
open Go.RowKit
set_option linter.unusedVariables false

def sesOne (p : Int × Int) : List Value := [.int .u64 p.1, .int .u64 p.2, .nilIface]
def sesCells (l : List (Int × Int)) : List Value := l.flatMap sesOne
theorem sesCells_len (l : List (Int × Int)) : (sesCells l).length = l.length * 3 := by
  induction l with
  | nil => rfl
  | cons p l ih => simp only [sesCells, List.flatMap_cons, List.length_append] at ih ⊢; rw [ih]; simp [sesOne]; omega
theorem sesCells_append (a b : List (Int × Int)) : sesCells (a ++ b) = sesCells a ++ sesCells b := by simp [sesCells]
theorem sesCells_get (l : List (Int × Int)) (i j : Nat) (hi : i < l.length) (hj : j < 3) : (sesCells l)[i * 3 + j]? = (sesOne l[i])[j]? := by
  have h1 : sesCells l = sesCells (l.take i) ++ (sesOne l[i] ++ sesCells (l.drop (i + 1))) := by
    conv => lhs; rw [← List.take_append_drop i l, sesCells_append, List.drop_eq_getElem_cons hi]
    rfl
  rw [h1, List.getElem?_append_right (by rw [sesCells_len, List.length_take]; omega), sesCells_len, List.length_take, show i * 3 + j - min i l.length * 3 = j by omega, List.getElem?_append_left (by simp [sesOne]; omega)]

theorem info47 : (Try.prog.info? 47).map (fun i => (i.zero, i.size, i.bytes)) = some (some (.agg #[.int .u64 0, .int .u64 0, .nilIface]), 3, 32) := by kernel_rfl

theorem cell_lt {w : World} {a : Addr} {v : Value} (h : w.cell? a = some v) : a.block < w.heap.size := by
  rcases Nat.lt_or_ge a.block w.heap.size with h1 | h1
  · exact h1
  · simp [World.cell?, Array.getElem?_eq_none h1] at h

theorem Arr.below {w w' : World} {a : Option Addr} {xs : List Int} (h : Arr w a xs) (hb : Below w.heap.size w w') : Arr w' a xs := by
  rcases h with h | ⟨x, rfl, h⟩
  · exact .inl h
  · exact .inr ⟨x, rfl, fun i hi => (hb.cell (p := x.add i) (cell_lt (h i hi))).trans (h i hi)⟩

theorem Arr.get {w : World} {a : Option Addr} {xs : List Int} (h : Arr w a xs) {i : Nat} (hi : i < xs.length) : ∃ x, a = some x ∧ w.cell? (x.add i) = some (.int .u64 (xs.getD i 0)) := by
  rcases h with h | ⟨x, rfl, h⟩
  · rw [h] at hi; simp at hi
  · exact ⟨x, rfl, h i hi⟩

set_option maxHeartbeats 1600000 in
set_option maxRecDepth 100000 in
theorem build_any (a0 a1 : Option Addr) (n c0 c1 : Nat) (xs ys : List Int) (w : World) (hx : xs.length = n) (hy : ys.length = n) (hn : n ≤ 5000) (hA : Arr w a0 xs) (hB : Arr w a1 ys) :
    Calls Try.prog 7 #[.slice a0 n c0, .slice a1 n c1] w fun e w' => ∃ v, e = .returned v ∧ w'.ownsRow w.heap.size 47 3 v n (sesCells (xs.zip ys)) ∧ Below w.heap.size w w' := by
  obtain ⟨i0, hi0, hz0, hz1, hz2⟩ := info_parts info47
  have HA : Hid (Arr w a0 xs ∧ Arr w a1 ys ∧ xs.length = n ∧ ys.length = n) := ⟨hA, hB, hx, hy⟩
  obtain ⟨w1, hrun, hown, hgrow⟩ := run_make_own (P := Try.prog) w w.heap.size 26 47 i0 _ 3 Try.underlying26 hi0 hz0 hz1 .i64 .i64 n (by rw [hz2]; omega) (by unfold maxLen; omega) (Nat.le_refl _)
  have HW1 : Hid (w1.ownsRow w.heap.size 47 3 (.slice (some ⟨w.heap.size, 0, none⟩) 0 n) 0 [] ∧ Below w.heap.size w w1) := ⟨hown, (Below.refl _ w).grown hgrow (Nat.le_refl _) (fun k e => by cases e)⟩
  clear hA hB hx hy hown hgrow
  go_enter Try.func7, Try.ntmps7
  go_wp2
  go_loopw [5, 6] (fun v i wr => ∃ k : Nat, k ≤ n ∧ i = .int .i64 k ∧ ∃ g cap : Nat, v = .slice (some ⟨g, 0, none⟩) k cap ∧ Hid (wr.ownsRow w.heap.size 47 3 (.slice (some ⟨g, 0, none⟩) k cap) k (sesCells ((xs.zip ys).take k)) ∧ Below w.heap.size w wr)) (fun _ i _ => n - (intOf i).toNat)
  case atStart => exact ⟨0, Nat.zero_le _, rfl, w.heap.size, n, rfl, HW1.out⟩
  case round =>
    obtain ⟨k, hk, rfl, g, cap, rfl, hrow⟩ := hrel
    by_cases hlt : k < n
    · obtain ⟨x, rfl, hcx⟩ := (HA.out.1.below hrow.out.2).get (i := k) (by rw [HA.out.2.2.1]; exact hlt)
      obtain ⟨y, rfl, hcy⟩ := (HA.out.2.1.below hrow.out.2).get (i := k) (by rw [HA.out.2.2.2]; exact hlt)
      obtain ⟨u, hu⟩ : ∃ u, u = xs.getD k 0 := ⟨_, rfl⟩
      obtain ⟨q, hq⟩ : ∃ q, q = ys.getD k 0 := ⟨_, rfl⟩
      rw [← hu] at hcx
      rw [← hq] at hcy
      have hstep : Hid (sesCells ((xs.zip ys).take (k + 1)) = sesCells ((xs.zip ys).take k) ++ [.int .u64 u, .int .u64 q, .nilIface]) := by
        have h1 : k < xs.length := by rw [HA.out.2.2.1]; exact hlt
        have h2 : k < ys.length := by rw [HA.out.2.2.2]; exact hlt
        have h3 : k < (xs.zip ys).length := by rw [List.length_zip]; omega
        show _ = _
        rw [List.take_succ_eq_append_getElem h3, sesCells_append, List.getElem_zip]
        simp [sesCells, sesOne, hu, hq, List.getD_eq_getElem?_getD, h1, h2]
      obtain ⟨g', cap', w2, hr, hown2, hgr, hg⟩ := run_append_row (P := Try.prog) (wr.drew.alloc (.cells #[.int .u64 u, .int .u64 q, .nilIface] 47)) w.heap.size 26 26 47 i0 _ 3 32 Try.underlying26 hi0 hz0 hz1 hz2 (by rfl) (by decide) (.slice (some ⟨g, 0, none⟩) k cap) k (sesCells ((xs.zip ys).take k))
        (World.ownsRow.alloc (w := wr.drew) hrow.out.1 _) ⟨wr.heap.size, 0, none⟩ 1 1 [.int .u64 u, .int .u64 q, .nilIface] (by simp) (fun j v hj => by
          rw [Addr.add_lit, cell_of_row _ wr.heap.size (0 + j) #[.int .u64 u, .int .u64 q, .nilIface] 47 (0, 0) (alloc_new wr _)]
          simpa using hj) (by intro v hv; simp at hv; rcases hv with rfl | rfl | rfl <;> rfl) (by unfold maxLen; omega) (by omega) (by have := hrow.out.2.size; simp; omega) (by decide)
      have HR := (show Hid _ from hr)
      have HN : Hid (w2.ownsRow w.heap.size 47 3 (.slice (some ⟨g', 0, none⟩) (k + 1) cap') (k + 1) (sesCells ((xs.zip ys).take (k + 1))) ∧ Below w.heap.size w w2) := by
        refine ⟨by rw [hstep.out]; exact hown2, ?_⟩
        refine ((hrow.out.2.drew).alloc hrow.out.2.size _).grown hgr (by have := hrow.out.2.size; simp; omega) (fun j e => ?_)
        simp [Value.ownBlock] at e
        obtain ⟨-, hro⟩ := hrow.out.1
        rcases hro with ⟨h, _⟩ | ⟨g0, c0, cur, h, hb, _⟩
        · cases h
        · cases h; omega
      clear hu hq hr hown2 hgr hg hstep hrow
      go_upto_region 5 with fail
      apply wp_region_one
      case h =>
        go_region_law (refine step_append_by rfl (.tmp 16) (.tmp 26) 26 26 rfl (.slice (some ⟨g, 0, none⟩) k cap) (.slice (some ⟨wr.heap.size, 0, none⟩) 1 1) (by simp [go_sem]) (by simp [go_sem]) HR.out ?_)
        all_goals exact ⟨rfl, rfl⟩
      case k =>
        go_wp2
        go_roundw
        case rel => exact ⟨k + 1, by omega, by go_num, g', cap', rfl, HN.out⟩
        case measure => simp [intOf]; omega
    · obtain rfl : k = n := by omega
      go_wp2
      go_ret
      refine ⟨_, rfl, ?_, hrow.out.2⟩
      have := hrow.out.1
      rw [List.take_of_length_le (by rw [List.length_zip, HA.out.2.2.1, HA.out.2.2.2]; omega)] at this
      exact this
end Go.Proofs.Qxb6613550a
