import Derived.Test.Qxb6613550aRowBase
namespace Go.Proofs.Qxb6613550a
open Go.RowKit

set_option maxHeartbeats 1600000 in
set_option maxRecDepth 100000 in
/-- slices.Insert(s, 0, x) where there is room: x lies in a block of its own. -/
theorem insShiftE (B g n cap : Nat) (xs : List Value) (gv : Nat) (curv : Array Value) (news : List Value) (w : World) (hown : w.ownsRow B 64 4 (.slice (some ⟨g, 0, none⟩) n cap) n xs) (hn0 : 0 < n) (hn : n ≤ 1000) (hnl : news.length = 4)
    (hgv : w.heap[gv]? = some (.cells curv 64 (0, 0))) (hcv : curv.toList = news) (hne : gv ≠ g) (h1c : ∀ u ∈ news, u.oneCell' = true) (h1x : ∀ u ∈ xs, u.oneCell' = true) (hroom : n < cap) :
    Calls Try.prog 39 #[.slice (some ⟨g, 0, none⟩) n cap, .int .i64 0, .slice (some ⟨gv, 0, none⟩) 1 1] w fun e w' =>
      e = .returned (.slice (some ⟨g, 0, none⟩) (n + 1) cap) ∧ w'.ownsRow B 64 4 (.slice (some ⟨g, 0, none⟩) (n + 1) cap) (n + 1) (news ++ xs) ∧ w.grownBy w' (some g) := by
  obtain ⟨i0, hi0, hz0, hz1, hz2⟩ := info_parts infoE
  have hlen := hown.1
  have hcells := hown.cells (g := g) rfl
  obtain ⟨cur, hBg, hg, hnc, hcm, hcs, ht⟩ := ownsRow_row hown
  have hnews : ∀ j u, news[j]? = some u → w.cell? ((⟨gv, 0, none⟩ : Addr).add j) = some u := fun j u hu => by
    rw [Addr.add_lit, Nat.zero_add, cell_of_row w gv j curv 64 (0, 0) hgv]
    rw [← hcv] at hu; simpa using hu
  have hcvs : curv.size = 4 := by rw [← hnl, ← hcv]; simp
  -- slices.overlaps says no
  have hov : ∀ lb cb, (callFunc 46 #[.slice (some ⟨gv, 0, none⟩) 1 1, .slice (some ⟨g, 4, none⟩) lb cb]).run Try.prog w = .ok (.value (.bool false)) w := fun lb cb => by
    rw [run_callFunc_extern Try.func46 (by kernel_rfl) (by kernel_rfl) (by kernel_rfl) (e := Extern.SlicesOverlaps.overlaps #[61, 61] #[4]) (by kernel_rfl),
      Lib.run_overlaps_apart w 61 4 64 Try.underlying61 4 (fun _ => by kernel_rfl) ⟨gv, 0, none⟩ ⟨g, 4, none⟩ 1 1 lb cb hne 64 64 curv.size cur.size (by simp [World.shape?, hgv]) (by simp [World.shape?, hg]) (by rw [hcs]; omega) (by simp [World.frozen?, hgv]) (by simp [World.frozen?, hgv])]
    rfl
  -- the first copy
  have hr1 := run_copy_rowK (P := Try.prog) w.drew 61 61 3 64 i0 g 4 n (cap - 1) ⟨g, 0, none⟩ (n + 1) cap cur 64 xs Try.underlying61 hi0 hg (by rw [hz1, hlen, show Nat.min (n + 1) n = n from Nat.min_eq_right (by omega)]) (fun j u hu => hcells j u hu) (by rw [hlen, hcs]; omega) h1x
  rw [show Nat.min (n + 1) n = n from Nat.min_eq_right (by omega)] at hr1
  obtain ⟨L1, hL1⟩ : ∃ L1, L1 = splice cur.toList 4 xs := ⟨_, rfl⟩
  rw [← hL1] at hr1
  have hl1 : L1.length = cap * 4 := by rw [hL1, length_splice _ _ _ (by rw [hlen, Array.length_toList, hcs]; omega)]; simpa using hcs
  have ht1 : (L1.drop 4).take (n * 4) = xs := by
    rw [hL1]; unfold splice
    rw [List.drop_append_of_le_length (by rw [List.length_take, Array.length_toList, hcs]; omega), List.drop_of_length_le (by rw [List.length_take]; omega), List.nil_append, ← hlen]
    exact List.take_left
  obtain ⟨W1, hW1⟩ : ∃ W1, W1 = w.drew.setRow g L1.toArray := ⟨_, rfl⟩
  rw [← hW1] at hr1
  have hh1 : W1.heap[g]? = some (.cells L1.toArray 64 (0, 0)) := by rw [hW1]; exact setRow_heap w.drew g cur _ 64 (0, 0) hg
  have hcell1 : ∀ j u, news[j]? = some u → W1.cell? ((⟨gv, 0, none⟩ : Addr).add j) = some u := fun j u hu => by
    rw [hW1, World.cell?_of_block (w := w.drew) (setRow_other w.drew g _ _ (by rw [Addr.add_lit]; exact hne))]
    exact hnews j u hu
  -- the second copy
  have hr2 := run_copy_rowK (P := Try.prog) W1 61 61 3 64 i0 g 0 (n + 1) cap ⟨gv, 0, none⟩ 1 1 L1.toArray 64 news Try.underlying61 hi0 hh1 (by rw [hz1, hnl, show Nat.min 1 (n + 1) = 1 from Nat.min_eq_left (by omega)]) hcell1 (by rw [hnl]; simp [hl1]; omega) h1c
  rw [show Nat.min 1 (n + 1) = 1 from Nat.min_eq_left (by omega)] at hr2
  obtain ⟨L2, hL2⟩ : ∃ L2, L2 = splice L1 0 news := ⟨_, rfl⟩
  rw [show L1.toArray.toList = L1 from rfl, ← hL2] at hr2
  have hl2 : L2.length = cap * 4 := by rw [hL2, length_splice _ _ _ (by rw [hnl, hl1]; omega), hl1]
  have ht2 : L2.take ((n + 1) * 4) = news ++ xs := by
    rw [hL2]; unfold splice
    rw [List.take_zero, List.nil_append, hnl, Nat.zero_add, List.take_append, List.take_of_length_le (by rw [hnl]; omega), hnl, show (n + 1) * 4 - 4 = n * 4 from by omega, ht1]
  obtain ⟨W2, hW2⟩ : ∃ W2, W2 = W1.setRow g L2.toArray := ⟨_, rfl⟩
  rw [← hW2] at hr2
  have hfin : Hid (W2.ownsRow B 64 4 (.slice (some ⟨g, 0, none⟩) (n + 1) cap) (n + 1) (news ++ xs)) := by
    refine ownsRow_mk L2.toArray hBg ?_ (by omega) hcm (by simpa using hl2) (by simpa using ht2)
    rw [hW2]; exact setRow_heap _ _ _ _ _ _ hh1
  have hgr : Hid (w.grownBy W2 (some g)) := by
    refine grownBy_trans (w1 := W1) ?_ ?_
    · rw [hW1]; exact grownBy_drewSetRow w g _
    · rw [hW2]; exact grownBy_setRow W1 g _
  have H1 : Hid ((Builtin.copy_ #[61, 61] 3 #[.slice (some ⟨g, 4, none⟩) n (cap - 1), .slice (some ⟨g, 0, none⟩) (n + 1) cap]).run Try.prog w.drew = .ok (.int .i64 n) W1) := hr1
  have H2 : Hid ((Builtin.copy_ #[61, 61] 3 #[.slice (some ⟨g, 0, none⟩) (n + 1) cap, .slice (some ⟨gv, 0, none⟩) 1 1]).run Try.prog W1 = .ok (.int .i64 1) W2) := hr2
  have hck : (n : Int) ≤ 1000 := by omega
  have hcap : (cap : Int) ≤ 9223372036854775807 := by unfold maxLen at hcm; omega
  have hne0 : ((0 : Int) == (n : Int)) = false := beq_eq_false_iff_ne.2 (by omega)
  have hng : ¬ (cap : Int) < (n : Int) + 1 := by omega
  have hc1 : ¬ cap = 1 := by omega
  have hc0 : ¬ cap = 0 := by omega
  have hwr1 : IntKind.i64.wrap 1 = 1 := by rw [IntKind.wrap_i64]; omega
  have hle1 : (1 : Int) ≤ (n : Int) + 1 := by omega
  have hle2 : (n : Int) + 1 ≤ (cap : Int) := by omega
  have hp0 : (0 : Int) ≤ (n : Int) + 1 := by omega
  have hp2 : ((n : Int) + 1).toNat = n + 1 := by omega
  clear hr1 hr2 hL1 hL2 hl1 hl2 ht1 ht2 hW1 hW2 hh1 hcell1 hi0 hz0 hz1 hz2 hnews h1c h1x hnl hown hlen hcells hg hcs ht hcm hgv hcv hcvs
  go_enter Try.func39, Try.ntmps39
  go_wp2_with fail
  go_region_law (refine step_copy_by rfl (.tmp 73) (.tmp 76) 61 61 rfl (.slice (some ⟨g, 4, none⟩) n (cap - 1)) (.slice (some ⟨g, 0, none⟩) (n + 1) cap) (by simp [go_sem]) (by simp [go_sem]) H1.out ?_)
  go_wp2_with (refine wpList_copy_by _ rfl (.tmp 80) (.tmp 81) 61 61 rfl _ _ rfl rfl H2.out ?_)
  go_ret
  exact ⟨rfl, hfin.out, hgr.out⟩

set_option maxHeartbeats 1600000 in
set_option maxRecDepth 100000 in
/-- slices.Insert(s, 0, x) where there is room: x lies in a block of its own. -/
theorem insShiftC (B g n cap : Nat) (xs : List Value) (gv : Nat) (curv : Array Value) (news : List Value) (w : World) (hown : w.ownsRow B 29 1 (.slice (some ⟨g, 0, none⟩) n cap) n xs) (hn0 : 0 < n) (hn : n ≤ 1000) (hnl : news.length = 1)
    (hgv : w.heap[gv]? = some (.cells curv 29 (0, 0))) (hcv : curv.toList = news) (hne : gv ≠ g) (h1c : ∀ u ∈ news, u.oneCell' = true) (h1x : ∀ u ∈ xs, u.oneCell' = true) (hroom : n < cap) :
    Calls Try.prog 41 #[.slice (some ⟨g, 0, none⟩) n cap, .int .i64 0, .slice (some ⟨gv, 0, none⟩) 1 1] w fun e w' =>
      e = .returned (.slice (some ⟨g, 0, none⟩) (n + 1) cap) ∧ w'.ownsRow B 29 1 (.slice (some ⟨g, 0, none⟩) (n + 1) cap) (n + 1) (news ++ xs) ∧ w.grownBy w' (some g) := by
  obtain ⟨i0, hi0, hz0, hz1, hz2⟩ := info_parts infoC
  have hlen := hown.1
  have hcells := hown.cells (g := g) rfl
  obtain ⟨cur, hBg, hg, hnc, hcm, hcs, ht⟩ := ownsRow_row hown
  have hnews : ∀ j u, news[j]? = some u → w.cell? ((⟨gv, 0, none⟩ : Addr).add j) = some u := fun j u hu => by
    rw [Addr.add_lit, Nat.zero_add, cell_of_row w gv j curv 29 (0, 0) hgv]
    rw [← hcv] at hu; simpa using hu
  have hcvs : curv.size = 1 := by rw [← hnl, ← hcv]; simp
  -- slices.overlaps says no
  have hov : ∀ lb cb, (callFunc 48 #[.slice (some ⟨gv, 0, none⟩) 1 1, .slice (some ⟨g, 1, none⟩) lb cb]).run Try.prog w = .ok (.value (.bool false)) w := fun lb cb => by
    rw [run_callFunc_extern Try.func48 (by kernel_rfl) (by kernel_rfl) (by kernel_rfl) (e := Extern.SlicesOverlaps.overlaps #[65, 65] #[4]) (by kernel_rfl),
      Lib.run_overlaps_apart w 65 4 29 Try.underlying65 1 (fun _ => by kernel_rfl) ⟨gv, 0, none⟩ ⟨g, 1, none⟩ 1 1 lb cb hne 29 29 curv.size cur.size (by simp [World.shape?, hgv]) (by simp [World.shape?, hg]) (by rw [hcs]; omega) (by simp [World.frozen?, hgv]) (by simp [World.frozen?, hgv])]
    rfl
  -- the first copy
  have hr1 := run_copy_rowK (P := Try.prog) w.drew 65 65 3 29 i0 g 1 n (cap - 1) ⟨g, 0, none⟩ (n + 1) cap cur 29 xs Try.underlying65 hi0 hg (by rw [hz1, hlen, show Nat.min (n + 1) n = n from Nat.min_eq_right (by omega)]) (fun j u hu => hcells j u hu) (by rw [hlen, hcs]; omega) h1x
  rw [show Nat.min (n + 1) n = n from Nat.min_eq_right (by omega)] at hr1
  obtain ⟨L1, hL1⟩ : ∃ L1, L1 = splice cur.toList 1 xs := ⟨_, rfl⟩
  rw [← hL1] at hr1
  have hl1 : L1.length = cap * 1 := by rw [hL1, length_splice _ _ _ (by rw [hlen, Array.length_toList, hcs]; omega)]; simpa using hcs
  have ht1 : (L1.drop 1).take (n * 1) = xs := by
    rw [hL1]; unfold splice
    rw [List.drop_append_of_le_length (by rw [List.length_take, Array.length_toList, hcs]; omega), List.drop_of_length_le (by rw [List.length_take]; omega), List.nil_append, ← hlen]
    exact List.take_left
  obtain ⟨W1, hW1⟩ : ∃ W1, W1 = w.drew.setRow g L1.toArray := ⟨_, rfl⟩
  rw [← hW1] at hr1
  have hh1 : W1.heap[g]? = some (.cells L1.toArray 29 (0, 0)) := by rw [hW1]; exact setRow_heap w.drew g cur _ 29 (0, 0) hg
  have hcell1 : ∀ j u, news[j]? = some u → W1.cell? ((⟨gv, 0, none⟩ : Addr).add j) = some u := fun j u hu => by
    rw [hW1, World.cell?_of_block (w := w.drew) (setRow_other w.drew g _ _ (by rw [Addr.add_lit]; exact hne))]
    exact hnews j u hu
  -- the second copy
  have hr2 := run_copy_rowK (P := Try.prog) W1 65 65 3 29 i0 g 0 (n + 1) cap ⟨gv, 0, none⟩ 1 1 L1.toArray 29 news Try.underlying65 hi0 hh1 (by rw [hz1, hnl, show Nat.min 1 (n + 1) = 1 from Nat.min_eq_left (by omega)]) hcell1 (by rw [hnl]; simp [hl1]; omega) h1c
  rw [show Nat.min 1 (n + 1) = 1 from Nat.min_eq_left (by omega)] at hr2
  obtain ⟨L2, hL2⟩ : ∃ L2, L2 = splice L1 0 news := ⟨_, rfl⟩
  rw [show L1.toArray.toList = L1 from rfl, ← hL2] at hr2
  have hl2 : L2.length = cap * 1 := by rw [hL2, length_splice _ _ _ (by rw [hnl, hl1]; omega), hl1]
  have ht2 : L2.take ((n + 1) * 1) = news ++ xs := by
    rw [hL2]; unfold splice
    rw [List.take_zero, List.nil_append, hnl, Nat.zero_add, List.take_append, List.take_of_length_le (by rw [hnl]; omega), hnl, show (n + 1) * 1 - 1 = n * 1 from by omega, ht1]
  obtain ⟨W2, hW2⟩ : ∃ W2, W2 = W1.setRow g L2.toArray := ⟨_, rfl⟩
  rw [← hW2] at hr2
  have hfin : Hid (W2.ownsRow B 29 1 (.slice (some ⟨g, 0, none⟩) (n + 1) cap) (n + 1) (news ++ xs)) := by
    refine ownsRow_mk L2.toArray hBg ?_ (by omega) hcm (by simpa using hl2) (by simpa using ht2)
    rw [hW2]; exact setRow_heap _ _ _ _ _ _ hh1
  have hgr : Hid (w.grownBy W2 (some g)) := by
    refine grownBy_trans (w1 := W1) ?_ ?_
    · rw [hW1]; exact grownBy_drewSetRow w g _
    · rw [hW2]; exact grownBy_setRow W1 g _
  have H1 : Hid ((Builtin.copy_ #[65, 65] 3 #[.slice (some ⟨g, 1, none⟩) n (cap - 1), .slice (some ⟨g, 0, none⟩) (n + 1) cap]).run Try.prog w.drew = .ok (.int .i64 n) W1) := hr1
  have H2 : Hid ((Builtin.copy_ #[65, 65] 3 #[.slice (some ⟨g, 0, none⟩) (n + 1) cap, .slice (some ⟨gv, 0, none⟩) 1 1]).run Try.prog W1 = .ok (.int .i64 1) W2) := hr2
  have hck : (n : Int) ≤ 1000 := by omega
  have hcap : (cap : Int) ≤ 9223372036854775807 := by unfold maxLen at hcm; omega
  have hne0 : ((0 : Int) == (n : Int)) = false := beq_eq_false_iff_ne.2 (by omega)
  have hng : ¬ (cap : Int) < (n : Int) + 1 := by omega
  have hc1 : ¬ cap = 1 := by omega
  have hc0 : ¬ cap = 0 := by omega
  have hwr1 : IntKind.i64.wrap 1 = 1 := by rw [IntKind.wrap_i64]; omega
  have hle1 : (1 : Int) ≤ (n : Int) + 1 := by omega
  have hle2 : (n : Int) + 1 ≤ (cap : Int) := by omega
  have hp0 : (0 : Int) ≤ (n : Int) + 1 := by omega
  have hp2 : ((n : Int) + 1).toNat = n + 1 := by omega
  clear hr1 hr2 hL1 hL2 hl1 hl2 ht1 ht2 hW1 hW2 hh1 hcell1 hi0 hz0 hz1 hz2 hnews h1c h1x hnl hown hlen hcells hg hcs ht hcm hgv hcv hcvs
  go_enter Try.func41, Try.ntmps41
  go_wp2_with fail
  go_region_law (refine step_copy_by rfl (.tmp 73) (.tmp 76) 65 65 rfl (.slice (some ⟨g, 1, none⟩) n (cap - 1)) (.slice (some ⟨g, 0, none⟩) (n + 1) cap) (by simp [go_sem]) (by simp [go_sem]) H1.out ?_)
  go_wp2_with (refine wpList_copy_by _ rfl (.tmp 80) (.tmp 81) 65 65 rfl _ _ rfl rfl H2.out ?_)
  go_ret
  exact ⟨rfl, hfin.out, hgr.out⟩

end Go.Proofs.Qxb6613550a
