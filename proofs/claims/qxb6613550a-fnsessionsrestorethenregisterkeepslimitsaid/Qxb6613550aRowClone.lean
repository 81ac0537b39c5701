import Derived.Test.Qxb6613550aRowBase
namespace Go.Proofs.Qxb6613550a
open Go.RowKit

theorem eqlNilE (a : Option Addr) (n c : Nat) (w : World) : (binOp .eql 61 (.slice a n c) (.slice none 0 0)).run Try.prog w = .ok (.bool a.isNone) w := by
  have := Lib.run_eql_slice_nil (P := Try.prog) w 61 64 a n c 0 0 Try.underlying61
  exact this

set_option maxHeartbeats 800000 in
/-- slices.Clone of a slice that is not empty. -/
theorem cloneE (B : Nat) (ad : Addr) (m c : Nat) (xs : List Value) (w : World) (hB : B ≤ w.heap.size) (hsrc : ∀ j u, xs[j]? = some u → w.cell? (ad.add j) = some u) (hl : xs.length = m * 4) (hm : 0 < m) (hm2 : m ≤ 1000) (h1c : ∀ u ∈ xs, u.oneCell' = true) :
    Calls Try.prog 36 #[.slice (some ad) m c] w fun e w' =>
      ∃ g cap, e = .returned (.slice (some ⟨g, 0, none⟩) m cap) ∧ w'.ownsRow B 64 4 (.slice (some ⟨g, 0, none⟩) m cap) m xs ∧ w.grownBy w' none ∧ w.heap.size ≤ g := by
  obtain ⟨i0, hi0, hz0, hz1, hz2⟩ := info_parts infoE
  have hsrc' : ∀ j u, xs[j]? = some u → (w.alloc (.cells #[] 64)).cell? (ad.add j) = some u := fun j u hu => by
    exact Lib.cell?_alloc_some _ (hsrc j u hu)
  obtain ⟨g, cap, w1, hr, hown, hgr, hg⟩ := run_append_row (P := Try.prog) (w.alloc (.cells #[] 64)) B 61 61 64 i0 _ 4 40 Try.underlying61 hi0 hz0 hz1 hz2 (by rfl) (by decide) (.slice (some ⟨w.heap.size, 0, none⟩) 0 0) 0 [] (World.ownsRow_made w #[] 0 hB (by unfold maxLen; omega) (by rfl)) ad m c xs hl hsrc' h1c (by unfold maxLen; omega) (by omega) (by simp; omega) hm
  simp only [Nat.zero_add, List.nil_append] at hr hown
  have HR : Hid ((Builtin.append_ #[61, 61] 61 #[.slice (some ⟨w.heap.size, 0, none⟩) 0 0, .slice (some ad) m c]).run Try.prog (w.alloc (.cells #[] 64)) = .ok (.slice (some ⟨g, 0, none⟩) m cap) w1) := hr
  have hgr' : Hid (w.grownBy w1 none) := ⟨hgr.os, hgr.tape, hgr.output, by have := hgr.size; simp at this; omega, fun k hk _ => (hgr.block k (by simp; omega) (by simp [Value.ownBlock]; omega)).trans (Below.heap_alloc w _ k hk)⟩
  have hown' : Hid (w1.ownsRow B 64 4 (.slice (some ⟨g, 0, none⟩) m cap) m xs) := hown
  have hg' : w.heap.size ≤ g := by
    rcases hg with h | h
    · simp [Value.ownBlock] at h; omega
    · simp at h; omega
  have heq := eqlNilE
  clear hr hown hgr hg hi0 hz0 hz1 hz2 hsrc hsrc' h1c hl
  go_enter Try.func36, Try.ntmps36
  go_wp2_with (at_builtin; refine wpList_append_by _ rfl (.tmp 5) (.tmp 6) 61 61 rfl _ _ rfl rfl HR.out ?_)
  go_ret
  exact ⟨g, cap, rfl, hown'.out, hgr'.out, hg'⟩

theorem eqlNilC (a : Option Addr) (n c : Nat) (w : World) : (binOp .eql 65 (.slice a n c) (.slice none 0 0)).run Try.prog w = .ok (.bool a.isNone) w := by
  have := Lib.run_eql_slice_nil (P := Try.prog) w 65 29 a n c 0 0 Try.underlying65
  exact this

set_option maxHeartbeats 800000 in
/-- slices.Clone of a slice that is not empty. -/
theorem cloneC (B : Nat) (ad : Addr) (m c : Nat) (xs : List Value) (w : World) (hB : B ≤ w.heap.size) (hsrc : ∀ j u, xs[j]? = some u → w.cell? (ad.add j) = some u) (hl : xs.length = m * 1) (hm : 0 < m) (hm2 : m ≤ 1000) (h1c : ∀ u ∈ xs, u.oneCell' = true) :
    Calls Try.prog 37 #[.slice (some ad) m c] w fun e w' =>
      ∃ g cap, e = .returned (.slice (some ⟨g, 0, none⟩) m cap) ∧ w'.ownsRow B 29 1 (.slice (some ⟨g, 0, none⟩) m cap) m xs ∧ w.grownBy w' none ∧ w.heap.size ≤ g := by
  obtain ⟨i0, hi0, hz0, hz1, hz2⟩ := info_parts infoC
  have hsrc' : ∀ j u, xs[j]? = some u → (w.alloc (.cells #[] 29)).cell? (ad.add j) = some u := fun j u hu => by
    exact Lib.cell?_alloc_some _ (hsrc j u hu)
  obtain ⟨g, cap, w1, hr, hown, hgr, hg⟩ := run_append_row (P := Try.prog) (w.alloc (.cells #[] 29)) B 65 65 29 i0 _ 1 8 Try.underlying65 hi0 hz0 hz1 hz2 (by rfl) (by decide) (.slice (some ⟨w.heap.size, 0, none⟩) 0 0) 0 [] (World.ownsRow_made w #[] 0 hB (by unfold maxLen; omega) (by rfl)) ad m c xs hl hsrc' h1c (by unfold maxLen; omega) (by omega) (by simp; omega) hm
  simp only [Nat.zero_add, List.nil_append] at hr hown
  have HR : Hid ((Builtin.append_ #[65, 65] 65 #[.slice (some ⟨w.heap.size, 0, none⟩) 0 0, .slice (some ad) m c]).run Try.prog (w.alloc (.cells #[] 29)) = .ok (.slice (some ⟨g, 0, none⟩) m cap) w1) := hr
  have hgr' : Hid (w.grownBy w1 none) := ⟨hgr.os, hgr.tape, hgr.output, by have := hgr.size; simp at this; omega, fun k hk _ => (hgr.block k (by simp; omega) (by simp [Value.ownBlock]; omega)).trans (Below.heap_alloc w _ k hk)⟩
  have hown' : Hid (w1.ownsRow B 29 1 (.slice (some ⟨g, 0, none⟩) m cap) m xs) := hown
  have hg' : w.heap.size ≤ g := by
    rcases hg with h | h
    · simp [Value.ownBlock] at h; omega
    · simp at h; omega
  have heq := eqlNilC
  clear hr hown hgr hg hi0 hz0 hz1 hz2 hsrc hsrc' h1c hl
  go_enter Try.func37, Try.ntmps37
  go_wp2_with (at_builtin; refine wpList_append_by _ rfl (.tmp 5) (.tmp 6) 65 65 rfl _ _ rfl rfl HR.out ?_)
  go_ret
  exact ⟨g, cap, rfl, hown'.out, hgr'.out, hg'⟩

end Go.Proofs.Qxb6613550a
