import Derived.Test.Qxb6613550aRowBase
namespace Go.Proofs.Qxb6613550a
open Go.RowKit

set_option maxHeartbeats 800000 in
set_option maxRecDepth 100000 in
/-- slices.Insert(s, len(s), x). -/
theorem insEndE (B n : Nat) (v : Value) (xs : List Value) (gv : Nat) (news : List Value) (w : World) (hown : w.ownsRow B 64 4 v n xs) (hn : n ≤ 1000) (hB : B ≤ w.heap.size) (hnl : news.length = 4)
    (hnews : ∀ j u, news[j]? = some u → w.cell? ((⟨gv, 0, none⟩ : Addr).add j) = some u) (h1c : ∀ u ∈ news, u.oneCell' = true) :
    Calls Try.prog 39 #[v, .int .i64 n, .slice (some ⟨gv, 0, none⟩) 1 1] w fun e w' =>
      ∃ g cap, e = .returned (.slice (some ⟨g, 0, none⟩) (n + 1) cap) ∧ w'.ownsRow B 64 4 (.slice (some ⟨g, 0, none⟩) (n + 1) cap) (n + 1) (xs ++ news) ∧ w.grownBy w' v.ownBlock ∧ (v.ownBlock = some g ∨ g = w.heap.size) := by
  obtain ⟨i0, hi0, hz0, hz1, hz2⟩ := info_parts infoE
  obtain ⟨g, cap, w1, hr, hown1, hgr, hg⟩ := run_append_row (P := Try.prog) w B 61 61 64 i0 _ 4 40 Try.underlying61 hi0 hz0 hz1 hz2 (by rfl) (by decide) v n xs hown ⟨gv, 0, none⟩ 1 1 news (by rw [hnl]) hnews h1c (by unfold maxLen; omega) (by omega) hB (by omega)
  have HR : Hid ((Builtin.append_ #[61, 61] 61 #[v, .slice (some ⟨gv, 0, none⟩) 1 1]).run Try.prog w = .ok (.slice (some ⟨g, 0, none⟩) (n + 1) cap) w1) := hr
  have H : Hid (w1.ownsRow B 64 4 (.slice (some ⟨g, 0, none⟩) (n + 1) cap) (n + 1) (xs ++ news) ∧ w.grownBy w1 v.ownBlock ∧ (v.ownBlock = some g ∨ g = w.heap.size)) := ⟨hown1, hgr, hg⟩
  have hshape := hown.2
  have hck : (n : Int) ≤ 1000 := by omega
  clear hr hown1 hgr hg hi0 hz0 hz1 hz2 hnews h1c hnl hown
  rcases hshape with ⟨rfl, rfl⟩ | ⟨g0, cap0, cur, rfl, _, _, hnc, hcm, _⟩
  · go_enter Try.func39, Try.ntmps39
    go_wp2_with (at_builtin; refine wpList_append_by _ rfl (.tmp 23) (.tmp 24) 61 61 rfl _ _ rfl rfl HR.out ?_)
    go_ret
    exact ⟨g, cap, rfl, H.out⟩
  · have hcap : (cap0 : Int) ≤ 9223372036854775807 := by unfold maxLen at hcm; omega
    clear hcm
    go_enter Try.func39, Try.ntmps39
    go_wp2_with (at_builtin; refine wpList_append_by _ rfl (.tmp 23) (.tmp 24) 61 61 rfl _ _ rfl rfl HR.out ?_)
    all_goals
      go_ret
      exact ⟨g, cap, rfl, H.out⟩

set_option maxHeartbeats 800000 in
set_option maxRecDepth 100000 in
/-- slices.Insert(s, len(s), x). -/
theorem insEndC (B n : Nat) (v : Value) (xs : List Value) (gv : Nat) (news : List Value) (w : World) (hown : w.ownsRow B 29 1 v n xs) (hn : n ≤ 1000) (hB : B ≤ w.heap.size) (hnl : news.length = 1)
    (hnews : ∀ j u, news[j]? = some u → w.cell? ((⟨gv, 0, none⟩ : Addr).add j) = some u) (h1c : ∀ u ∈ news, u.oneCell' = true) :
    Calls Try.prog 41 #[v, .int .i64 n, .slice (some ⟨gv, 0, none⟩) 1 1] w fun e w' =>
      ∃ g cap, e = .returned (.slice (some ⟨g, 0, none⟩) (n + 1) cap) ∧ w'.ownsRow B 29 1 (.slice (some ⟨g, 0, none⟩) (n + 1) cap) (n + 1) (xs ++ news) ∧ w.grownBy w' v.ownBlock ∧ (v.ownBlock = some g ∨ g = w.heap.size) := by
  obtain ⟨i0, hi0, hz0, hz1, hz2⟩ := info_parts infoC
  obtain ⟨g, cap, w1, hr, hown1, hgr, hg⟩ := run_append_row (P := Try.prog) w B 65 65 29 i0 _ 1 8 Try.underlying65 hi0 hz0 hz1 hz2 (by rfl) (by decide) v n xs hown ⟨gv, 0, none⟩ 1 1 news (by rw [hnl]) hnews h1c (by unfold maxLen; omega) (by omega) hB (by omega)
  have HR : Hid ((Builtin.append_ #[65, 65] 65 #[v, .slice (some ⟨gv, 0, none⟩) 1 1]).run Try.prog w = .ok (.slice (some ⟨g, 0, none⟩) (n + 1) cap) w1) := hr
  have H : Hid (w1.ownsRow B 29 1 (.slice (some ⟨g, 0, none⟩) (n + 1) cap) (n + 1) (xs ++ news) ∧ w.grownBy w1 v.ownBlock ∧ (v.ownBlock = some g ∨ g = w.heap.size)) := ⟨hown1, hgr, hg⟩
  have hshape := hown.2
  have hck : (n : Int) ≤ 1000 := by omega
  clear hr hown1 hgr hg hi0 hz0 hz1 hz2 hnews h1c hnl hown
  rcases hshape with ⟨rfl, rfl⟩ | ⟨g0, cap0, cur, rfl, _, _, hnc, hcm, _⟩
  · go_enter Try.func41, Try.ntmps41
    go_wp2_with (at_builtin; refine wpList_append_by _ rfl (.tmp 23) (.tmp 24) 65 65 rfl _ _ rfl rfl HR.out ?_)
    go_ret
    exact ⟨g, cap, rfl, H.out⟩
  · have hcap : (cap0 : Int) ≤ 9223372036854775807 := by unfold maxLen at hcm; omega
    clear hcm
    go_enter Try.func41, Try.ntmps41
    go_wp2_with (at_builtin; refine wpList_append_by _ rfl (.tmp 23) (.tmp 24) 65 65 rfl _ _ rfl rfl HR.out ?_)
    all_goals
      go_ret
      exact ⟨g, cap, rfl, H.out⟩

end Go.Proofs.Qxb6613550a
