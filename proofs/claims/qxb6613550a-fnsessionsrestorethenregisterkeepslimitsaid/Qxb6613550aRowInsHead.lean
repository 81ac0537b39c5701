import Derived.Test.Qxb6613550aRowInsShift
import Derived.Test.Qxb6613550aRowInsFront
namespace Go.Proofs.Qxb6613550a
open Go.RowKit

/-- slices.Insert(s, 0, x), whatever the room: x lies in a block of its own. -/
theorem insHeadE (B g n cap : Nat) (xs : List Value) (gv : Nat) (curv : Array Value) (news : List Value) (w : World) (hown : w.ownsRow B 64 4 (.slice (some ⟨g, 0, none⟩) n cap) n xs) (hn0 : 0 < n) (hn : n ≤ 1000) (hB : B ≤ w.heap.size) (hnl : news.length = 4)
    (hgv : w.heap[gv]? = some (.cells curv 64 (0, 0))) (hcv : curv.toList = news) (hne : gv ≠ g) (h1c : ∀ u ∈ news, u.oneCell' = true) (h1x : ∀ u ∈ xs, u.oneCell' = true) :
    Calls Try.prog 39 #[.slice (some ⟨g, 0, none⟩) n cap, .int .i64 0, .slice (some ⟨gv, 0, none⟩) 1 1] w fun e w' =>
      ∃ g' cap', e = .returned (.slice (some ⟨g', 0, none⟩) (n + 1) cap') ∧ w'.ownsRow B 64 4 (.slice (some ⟨g', 0, none⟩) (n + 1) cap') (n + 1) (news ++ xs) ∧ w.grownBy w' (some g) ∧ (g = g' ∨ g' = w.heap.size) := by
  have hnews : ∀ j u, news[j]? = some u → w.cell? ((⟨gv, 0, none⟩ : Addr).add j) = some u := fun j u hu => by
    rw [Addr.add_lit, Nat.zero_add, cell_of_row w gv j curv 64 (0, 0) hgv]
    rw [← hcv] at hu; simpa using hu
  by_cases hroom : n < cap
  · refine (insShiftE B g n cap xs gv curv news w hown hn0 hn hnl hgv hcv hne h1c h1x hroom).mono ?_
    rintro e w' ⟨rfl, h1, h2⟩
    exact ⟨_, _, rfl, h1, h2, .inl rfl⟩
  · refine (insGrowE B g n cap xs gv news w hown hn0 hn hB hnl hnews h1c h1x (by omega)).mono ?_
    rintro e w' ⟨c2, rfl, h1, h2⟩
    exact ⟨_, _, rfl, h1, ⟨h2.os, h2.tape, h2.output, h2.size, fun k hk _ => h2.block k hk (by simp)⟩, .inr rfl⟩

/-- slices.Insert(s, 0, x), whatever the room: x lies in a block of its own. -/
theorem insHeadC (B g n cap : Nat) (xs : List Value) (gv : Nat) (curv : Array Value) (news : List Value) (w : World) (hown : w.ownsRow B 29 1 (.slice (some ⟨g, 0, none⟩) n cap) n xs) (hn0 : 0 < n) (hn : n ≤ 1000) (hB : B ≤ w.heap.size) (hnl : news.length = 1)
    (hgv : w.heap[gv]? = some (.cells curv 29 (0, 0))) (hcv : curv.toList = news) (hne : gv ≠ g) (h1c : ∀ u ∈ news, u.oneCell' = true) (h1x : ∀ u ∈ xs, u.oneCell' = true) :
    Calls Try.prog 41 #[.slice (some ⟨g, 0, none⟩) n cap, .int .i64 0, .slice (some ⟨gv, 0, none⟩) 1 1] w fun e w' =>
      ∃ g' cap', e = .returned (.slice (some ⟨g', 0, none⟩) (n + 1) cap') ∧ w'.ownsRow B 29 1 (.slice (some ⟨g', 0, none⟩) (n + 1) cap') (n + 1) (news ++ xs) ∧ w.grownBy w' (some g) ∧ (g = g' ∨ g' = w.heap.size) := by
  have hnews : ∀ j u, news[j]? = some u → w.cell? ((⟨gv, 0, none⟩ : Addr).add j) = some u := fun j u hu => by
    rw [Addr.add_lit, Nat.zero_add, cell_of_row w gv j curv 29 (0, 0) hgv]
    rw [← hcv] at hu; simpa using hu
  by_cases hroom : n < cap
  · refine (insShiftC B g n cap xs gv curv news w hown hn0 hn hnl hgv hcv hne h1c h1x hroom).mono ?_
    rintro e w' ⟨rfl, h1, h2⟩
    exact ⟨_, _, rfl, h1, h2, .inl rfl⟩
  · refine (insGrowC B g n cap xs gv news w hown hn0 hn hB hnl hnews h1c h1x (by omega)).mono ?_
    rintro e w' ⟨c2, rfl, h1, h2⟩
    exact ⟨_, _, rfl, h1, ⟨h2.os, h2.tape, h2.output, h2.size, fun k hk _ => h2.block k hk (by simp)⟩, .inr rfl⟩

end Go.Proofs.Qxb6613550a
