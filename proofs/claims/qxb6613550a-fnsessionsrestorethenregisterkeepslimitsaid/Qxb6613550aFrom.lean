/-
  Map.From: the function value, and what a loop over it may count on.
-/
import Derived.Test.Qxb6613550aAscW
import Derived.Test.Qxb6613550aBuild
namespace Go.Proofs.Qxb6613550a
open Go.RowKit Go.Shelf
set_option linter.unusedVariables false
attribute [local go_sem] Oper.semAt_some

theorem ascending_any (p f : Option Addr) (w : World) :
    Calls Try.prog 51 #[.pointer p, .pointer f] w fun e w' => e = .returned (.func (.func 54) #[] #[.pointer (some ⟨w.heap.size, 0, none⟩), .pointer (some ⟨w.heap.size + 1, 0, none⟩)]) ∧ w' = (w.alloc (.cells #[.pointer p] 29)).alloc (.cells #[.pointer f] 92) := by
  go_enter Try.func51, Try.ntmps51
  go_wp2
  go_ret
  exact ⟨rfl, rfl⟩

theorem from_any (S : Nat) (p : Option Addr) (key : Int) (w : World) (h0 : w.cell? ⟨S, 0, none⟩ = some (.pointer p)) :
    Calls Try.prog 45 #[.pointer (some ⟨S, 0, none⟩), .int .u64 key] w fun e w' => e = .returned (.func (.func 54) #[] #[.pointer (some ⟨w.heap.size + 1, 0, none⟩), .pointer (some ⟨w.heap.size + 2, 0, none⟩)]) ∧
      w' = ((w.alloc (.cells #[.int .u64 key] 23)).alloc (.cells #[.pointer p] 29)).alloc (.cells #[.pointer (some ⟨w.heap.size, 0, none⟩)] 92) := by
  have h1 := alloc_cell0 (.cells #[.int .u64 key] 23) h0
  have hc := ascending_any p (some ⟨w.heap.size, 0, none⟩) (w.alloc (.cells #[.int .u64 key] 23))
  simp only [World.size_alloc, Nat.add_assoc, Nat.reduceAdd] at hc
  have HC := (show Hid _ from hc)
  clear hc
  go_enter Try.func45, Try.ntmps45
  go_wp2_with fail
  refine Calls.mono HC.out ?_
  rintro e w' ⟨rfl, hw'⟩
  subst w'
  go_wp2_with fail
  go_ret
  exact ⟨rfl, rfl⟩

/-- A loop over From(key) of a tree. -/
theorem from_stops (n B B1 B2 B3 : Nat) (σ : Sto) (h b : Nat) (key : Int) (w : World) (hI : Inv B w σ) (hw : WF σ h b) (hs : Srt (cont σ h b)) (hok : ∀ e ∈ cont σ h b, OkE e)
    (c1 : w.cell? ⟨B1, 0, none⟩ = some (.pointer (some ⟨b, 0, none⟩))) (c2 : w.cell? ⟨B2, 0, none⟩ = some (.pointer (some ⟨B3, 0, none⟩))) (c3 : w.cell? ⟨B3, 0, none⟩ = some (.int .u64 key)) :
    SeqStopsK Fence.wide n Try.prog 54 #[.pointer (some ⟨B1, 0, none⟩), .pointer (some ⟨B2, 0, none⟩)] encE Kq (fun _ => True) (fun _ => True) (cont σ h b).length w := by
  intro l J Jx W hW hJ hJx hY h0
  have hdd : ∀ k : Nat, (Fence.wide.depth.isSome = true → 1 ≤ k) := fun k h => by cases h
  have d1 : W.cell? ⟨B1, 0, none⟩ = some (.pointer (some ⟨b, 0, none⟩)) := (hW.cell (p := ⟨B1, 0, none⟩) (cell_lt c1)).trans c1
  have d2 : W.cell? ⟨B2, 0, none⟩ = some (.pointer (some ⟨B3, 0, none⟩)) := (hW.cell (p := ⟨B2, 0, none⟩) (cell_lt c2)).trans c2
  have d3 : W.cell? ⟨B3, 0, none⟩ = some (.int .u64 key) := (hW.cell (p := ⟨B3, 0, none⟩) (cell_lt c3)).trans c3
  have hI' : Inv B W σ := hI.below hW (Nat.le_refl _)
  have ha := asc_any l (cont σ h b).length B σ J Jx (fun m pre x W1 hj hl => YieldAt.anyDepth rfl m (hY pre x W1 hj hl)) (fun pre W W' hj hg => hJ pre W W' none hj hg (fun r e => by cases e)) h b (n - 1) (some ⟨B3, 0, none⟩) [] W hI' hw hs hok (.inr ⟨_, key, rfl, d3⟩) h0 (by simp)
  have HA := (show Hid _ from ha)
  clear ha hY hJ hJx h0 hI hI' hW c1 c2 c3 d3
  refine callsIn_of_wp Try.func54 rfl trivial ?_ rfl
  simp only [Try.ntmps54, List.size_toArray, List.length_cons, List.length_nil, Nat.reduceAdd, Nat.reduceSub, Array.replicate_succ, Array.replicate_zero, List.push_toArray, List.append_toArray, List.nil_append, List.cons_append]
  gi_wp2_with fail
  refine ⟨trivial, hdd _, ?_⟩
  refine CallsIn.mono HA.out ?_
  rintro e W1 (⟨rfl, ⟨q, hq, hJ1⟩, hk⟩ | ⟨rfl, q, hx⟩)
  · gi_wp2_with fail
    go_end0
    exact ⟨⟨_, rfl⟩, .inl ⟨[] ++ q, trivial, hJ1⟩⟩
  · gi_wp2_with fail
    go_end0
    exact ⟨⟨_, rfl⟩, .inr ⟨[] ++ q, trivial, hx⟩⟩
end Go.Proofs.Qxb6613550a
