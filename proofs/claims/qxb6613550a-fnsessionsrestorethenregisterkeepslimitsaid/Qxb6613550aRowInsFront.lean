import Derived.Test.Qxb6613550aRowBase
namespace Go.Proofs.Qxb6613550a
open Go.RowKit

set_option maxHeartbeats 1600000 in
set_option maxRecDepth 100000 in
/-- slices.Insert(s, 0, x) where it must grow. -/
theorem insGrowE (B g n cap : Nat) (xs : List Value) (gv : Nat) (news : List Value) (w : World) (hown : w.ownsRow B 64 4 (.slice (some ⟨g, 0, none⟩) n cap) n xs) (hn0 : 0 < n) (hn : n ≤ 1000) (hB : B ≤ w.heap.size) (hnl : news.length = 4)
    (hnews : ∀ j u, news[j]? = some u → w.cell? ((⟨gv, 0, none⟩ : Addr).add j) = some u) (h1c : ∀ u ∈ news, u.oneCell' = true) (h1x : ∀ u ∈ xs, u.oneCell' = true) (hgrow : cap ≤ n) :
    Calls Try.prog 39 #[.slice (some ⟨g, 0, none⟩) n cap, .int .i64 0, .slice (some ⟨gv, 0, none⟩) 1 1] w fun e w' =>
      ∃ cap', e = .returned (.slice (some ⟨w.heap.size, 0, none⟩) (n + 1) cap') ∧ w'.ownsRow B 64 4 (.slice (some ⟨w.heap.size, 0, none⟩) (n + 1) cap') (n + 1) (news ++ xs) ∧ w.grownBy w' none := by
  obtain ⟨i0, hi0, hz0, hz1, hz2⟩ := info_parts infoE
  have hlen := hown.1
  have hcells := hown.cells (g := g) rfl
  obtain ⟨cur, hBg, hg, hnc, hcm, hcs, ht⟩ := ownsRow_row hown
  have hgs : g < w.heap.size := (hown.lt g rfl).2
  obtain rfl : cap = n := by omega
  -- the new row of zeros
  obtain ⟨c2, hc2⟩ : ∃ c2, c2 = grownCap w (cap + 1) cap 64 := ⟨_, rfl⟩
  have hge : cap + 1 ≤ c2 := by rw [hc2]; exact grownCap_ge _ _ _ _
  have hcm2 : c2 ≤ maxLen := by rw [hc2]; exact grownCap_le_maxLen _ _ _ _ (by unfold maxLen; omega)
  have hnx : Builtin.nextslicecap (cap + 1) cap ≤ 3000 := by
    unfold Builtin.nextslicecap
    split
    · omega
    · split
      · omega
      · rename_i h1 h2
        unfold Builtin.growBy; split
        · omega
        · unfold Builtin.growBy; split
          · omega
          · omega
  have hr0 := run_append_zeros_grow (P := Try.prog) w 61 3 61 64 i0 _ .i64 .i64 Try.underlying61 Try.underlying3 hi0 hz0 ⟨g, 0, none⟩ cap (cap + 1) (by omega) (by omega) (by omega) (by rw [hz2]; omega) (by rw [hz2]; omega)
  rw [← hc2] at hr0
  obtain ⟨Z, hZ⟩ : ∃ Z : Array Value, Z = Builtin.zeroCells ((.agg #[.int .u64 0, .int .u64 0, .int .u64 0, .nilIface]) : Value).cells (cap + 1) ++ Builtin.zeroCells ((.agg #[.int .u64 0, .int .u64 0, .int .u64 0, .nilIface]) : Value).cells (c2 - (cap + 1)) := ⟨_, rfl⟩
  rw [← hZ] at hr0
  have hZs : Z.size = c2 * 4 := by rw [hZ]; simp [size_zeroCells, Value.cells]; omega
  obtain ⟨W1, hW1⟩ : ∃ W1, W1 = w.drew.alloc (.cells Z 64) := ⟨_, rfl⟩
  rw [← hW1] at hr0
  have hh1 : W1.heap[w.heap.size]? = some (.cells Z 64 (0, 0)) := by rw [hW1]; exact heap_alloc_new w.drew _
  have hcell1 : ∀ (a : Addr) u, w.cell? a = some u → W1.cell? a = some u := fun a u hu => by rw [hW1]; exact Lib.cell?_alloc_some _ hu
  -- the first copy
  have hr1 := run_copy_rowK (P := Try.prog) W1 61 61 3 64 i0 w.heap.size 0 (cap + 1) c2 ⟨gv, 0, none⟩ 1 1 Z 64 news Try.underlying61 hi0 hh1 (by rw [hz1, hnl, show Nat.min 1 (cap + 1) = 1 from Nat.min_eq_left (by omega)]) (fun j u hu => hcell1 _ _ (hnews j u hu)) (by rw [hnl, hZs]; omega) h1c
  obtain ⟨L1, hL1⟩ : ∃ L1, L1 = splice Z.toList 0 news := ⟨_, rfl⟩
  rw [← hL1] at hr1
  have hl1 : L1.length = c2 * 4 := by rw [hL1, length_splice _ _ _ (by simp [hnl, hZs]; omega)]; simpa using hZs
  have ht1 : L1.take 4 = news := by rw [hL1]; unfold splice; rw [List.take_zero, List.nil_append, ← hnl]; exact List.take_left
  obtain ⟨W2, hW2⟩ : ∃ W2, W2 = W1.setRow w.heap.size L1.toArray := ⟨_, rfl⟩
  rw [← hW2] at hr1
  have hh2 : W2.heap[w.heap.size]? = some (.cells L1.toArray 64 (0, 0)) := by rw [hW2]; exact setRow_heap _ _ _ _ _ _ hh1
  have hcell2 : ∀ (a : Addr) u, a.block < w.heap.size → w.cell? a = some u → W2.cell? a = some u := fun a u ha hu => by
    rw [hW2, World.cell?_of_block (w := W1) (setRow_other W1 _ _ _ (by omega))]; exact hcell1 a u hu
  -- the second copy
  have hr2 := run_copy_rowK (P := Try.prog) W2.drew 61 61 3 64 i0 w.heap.size (4) cap (c2 - 1) ⟨g, 0, none⟩ cap cap L1.toArray 64 xs Try.underlying61 hi0 hh2 (by rw [hz1, hlen, show Nat.min cap cap = cap from Nat.min_self _]) (fun j u hu => hcell2 _ _ (by rw [Addr.add_lit]; exact hgs) (hcells j u hu)) (by rw [hlen]; simp [hl1]; omega) h1x
  obtain ⟨L2, hL2⟩ : ∃ L2, L2 = splice L1 (4) xs := ⟨_, rfl⟩
  rw [show L1.toArray.toList = L1 from rfl, ← hL2] at hr2
  have hl2 : L2.length = c2 * 4 := by rw [hL2, length_splice _ _ _ (by rw [hlen, hl1]; omega), hl1]
  have ht2 : L2.take ((cap + 1) * 4) = news ++ xs := by
    have e0 : L1.take (4) = news := ht1
    rw [hL2]; unfold splice; rw [e0, ← List.append_assoc, List.take_append_of_le_length (by simp [hnl, hlen]; omega)]
    exact List.take_of_length_le (by simp [hnl, hlen]; omega)
  obtain ⟨W3, hW3⟩ : ∃ W3, W3 = W2.drew.setRow w.heap.size L2.toArray := ⟨_, rfl⟩
  rw [← hW3] at hr2
  have hfin : Hid (W3.ownsRow B 64 4 (.slice (some ⟨w.heap.size, 0, none⟩) (cap + 1) c2) (cap + 1) (news ++ xs)) := by
    refine ownsRow_mk L2.toArray hB ?_ hge hcm2 (by simpa using hl2) (by simpa using ht2)
    rw [hW3]; exact setRow_heap _ _ _ _ _ _ hh2
  have hgr : Hid (w.grownBy W3 none) := by
    refine ⟨by rw [hW3, hW2, hW1]; rfl, by rw [hW3, hW2, hW1]; rfl, by rw [hW3, hW2, hW1]; rfl, by rw [hW3, hW2, hW1]; simp [World.setRow], fun k hk _ => ?_⟩
    rw [hW3, setRow_other W2.drew _ _ _ (by omega)]
    show W2.heap[k]? = _
    rw [hW2, setRow_other W1 _ _ _ (by omega), hW1]
    exact Below.heap_alloc w.drew _ k hk
  have H0 : Hid ((Builtin.append_ #[61, 3] 61 #[.slice (some ⟨g, 0, none⟩) 0 cap, .int .i64 ((cap : Int) + 1)]).run Try.prog w = .ok (.slice (some ⟨w.heap.size, 0, none⟩) (cap + 1) c2) W1) := by
    have h := hr0
    simp only [Int.natCast_add, Int.cast_ofNat_Int] at h
    exact h
  have H1 : Hid ((Builtin.copy_ #[61, 61] 3 #[.slice (some ⟨w.heap.size, 0, none⟩) (cap + 1) c2, .slice (some ⟨gv, 0, none⟩) 1 1]).run Try.prog W1 = .ok (goInt (Nat.min 1 (cap + 1))) W2) := hr1
  have H2 : Hid ((Builtin.copy_ #[61, 61] 3 #[.slice (some ⟨w.heap.size, 4, none⟩) cap (c2 - 1), .slice (some ⟨g, 0, none⟩) cap cap]).run Try.prog W2.drew = .ok (.int .i64 cap) W3) := by
    have h := hr2
    rw [show Nat.min cap cap = cap from Nat.min_self _] at h
    exact h
  have hck : (cap : Int) ≤ 1000 := by omega
  have hc2' : (c2 : Int) ≤ 9223372036854775807 := by unfold maxLen at hcm2; omega
  have hne : ((0 : Int) == (cap : Int)) = false := beq_eq_false_iff_ne.2 (by omega)
  have hgt : (cap : Int) < (cap : Int) + 1 := by omega
  have hc1 : ¬ c2 = 1 := by omega
  have hc0 : ¬ c2 = 0 := by omega
  have hk0 : ¬ cap = 0 := by omega
  have hwr1 : IntKind.i64.wrap 1 = 1 := by rw [IntKind.wrap_i64]; omega
  have hle1 : (1 : Int) ≤ (cap : Int) + 1 := by omega
  clear hr0 hr1 hr2 hL1 hL2 hl1 hl2 ht1 ht2 hW1 hW2 hW3 hh1 hh2 hcell1 hcell2 hi0 hz0 hz1 hz2 hnews h1c h1x hnl hown hlen hcells hg hcs ht hcm hcm2 hZ hZs hc2 hnx hnc hgrow
  go_enter Try.func39, Try.ntmps39
  go_wp2_with (first | (at_builtin; refine wpList_append_by _ rfl (.tmp 34) (.tmp 39) 61 3 rfl _ _ rfl rfl H0.out ?_) | (refine wpList_copy_by _ rfl (.tmp 43) (.tmp 44) 61 61 rfl _ _ rfl rfl H1.out ?_))
  go_region_law (refine step_copy_by rfl (.tmp 50) (.tmp 53) 61 61 rfl (.slice (some ⟨w.heap.size, 4, none⟩) cap (c2 - 1)) (.slice (some ⟨g, 0, none⟩) cap cap) (by simp [go_sem]) (by simp [go_sem]) H2.out ?_)
  go_wp2
  go_ret
  exact ⟨c2, rfl, hfin.out, hgr.out⟩

set_option maxHeartbeats 1600000 in
set_option maxRecDepth 100000 in
/-- slices.Insert(s, 0, x) where it must grow. -/
theorem insGrowC (B g n cap : Nat) (xs : List Value) (gv : Nat) (news : List Value) (w : World) (hown : w.ownsRow B 29 1 (.slice (some ⟨g, 0, none⟩) n cap) n xs) (hn0 : 0 < n) (hn : n ≤ 1000) (hB : B ≤ w.heap.size) (hnl : news.length = 1)
    (hnews : ∀ j u, news[j]? = some u → w.cell? ((⟨gv, 0, none⟩ : Addr).add j) = some u) (h1c : ∀ u ∈ news, u.oneCell' = true) (h1x : ∀ u ∈ xs, u.oneCell' = true) (hgrow : cap ≤ n) :
    Calls Try.prog 41 #[.slice (some ⟨g, 0, none⟩) n cap, .int .i64 0, .slice (some ⟨gv, 0, none⟩) 1 1] w fun e w' =>
      ∃ cap', e = .returned (.slice (some ⟨w.heap.size, 0, none⟩) (n + 1) cap') ∧ w'.ownsRow B 29 1 (.slice (some ⟨w.heap.size, 0, none⟩) (n + 1) cap') (n + 1) (news ++ xs) ∧ w.grownBy w' none := by
  obtain ⟨i0, hi0, hz0, hz1, hz2⟩ := info_parts infoC
  have hlen := hown.1
  have hcells := hown.cells (g := g) rfl
  obtain ⟨cur, hBg, hg, hnc, hcm, hcs, ht⟩ := ownsRow_row hown
  have hgs : g < w.heap.size := (hown.lt g rfl).2
  obtain rfl : cap = n := by omega
  -- the new row of zeros
  obtain ⟨c2, hc2⟩ : ∃ c2, c2 = grownCap w (cap + 1) cap 29 := ⟨_, rfl⟩
  have hge : cap + 1 ≤ c2 := by rw [hc2]; exact grownCap_ge _ _ _ _
  have hcm2 : c2 ≤ maxLen := by rw [hc2]; exact grownCap_le_maxLen _ _ _ _ (by unfold maxLen; omega)
  have hnx : Builtin.nextslicecap (cap + 1) cap ≤ 3000 := by
    unfold Builtin.nextslicecap
    split
    · omega
    · split
      · omega
      · rename_i h1 h2
        unfold Builtin.growBy; split
        · omega
        · unfold Builtin.growBy; split
          · omega
          · omega
  have hr0 := run_append_zeros_grow (P := Try.prog) w 65 3 65 29 i0 _ .i64 .i64 Try.underlying65 Try.underlying3 hi0 hz0 ⟨g, 0, none⟩ cap (cap + 1) (by omega) (by omega) (by omega) (by rw [hz2]; omega) (by rw [hz2]; omega)
  rw [← hc2] at hr0
  obtain ⟨Z, hZ⟩ : ∃ Z : Array Value, Z = Builtin.zeroCells ((.pointer none) : Value).cells (cap + 1) ++ Builtin.zeroCells ((.pointer none) : Value).cells (c2 - (cap + 1)) := ⟨_, rfl⟩
  rw [← hZ] at hr0
  have hZs : Z.size = c2 * 1 := by rw [hZ]; simp [size_zeroCells, Value.cells]; omega
  obtain ⟨W1, hW1⟩ : ∃ W1, W1 = w.drew.alloc (.cells Z 29) := ⟨_, rfl⟩
  rw [← hW1] at hr0
  have hh1 : W1.heap[w.heap.size]? = some (.cells Z 29 (0, 0)) := by rw [hW1]; exact heap_alloc_new w.drew _
  have hcell1 : ∀ (a : Addr) u, w.cell? a = some u → W1.cell? a = some u := fun a u hu => by rw [hW1]; exact Lib.cell?_alloc_some _ hu
  -- the first copy
  have hr1 := run_copy_rowK (P := Try.prog) W1 65 65 3 29 i0 w.heap.size 0 (cap + 1) c2 ⟨gv, 0, none⟩ 1 1 Z 29 news Try.underlying65 hi0 hh1 (by rw [hz1, hnl, show Nat.min 1 (cap + 1) = 1 from Nat.min_eq_left (by omega)]) (fun j u hu => hcell1 _ _ (hnews j u hu)) (by rw [hnl, hZs]; omega) h1c
  obtain ⟨L1, hL1⟩ : ∃ L1, L1 = splice Z.toList 0 news := ⟨_, rfl⟩
  rw [← hL1] at hr1
  have hl1 : L1.length = c2 * 1 := by rw [hL1, length_splice _ _ _ (by simp [hnl, hZs]; omega)]; simpa using hZs
  have ht1 : L1.take 1 = news := by rw [hL1]; unfold splice; rw [List.take_zero, List.nil_append, ← hnl]; exact List.take_left
  obtain ⟨W2, hW2⟩ : ∃ W2, W2 = W1.setRow w.heap.size L1.toArray := ⟨_, rfl⟩
  rw [← hW2] at hr1
  have hh2 : W2.heap[w.heap.size]? = some (.cells L1.toArray 29 (0, 0)) := by rw [hW2]; exact setRow_heap _ _ _ _ _ _ hh1
  have hcell2 : ∀ (a : Addr) u, a.block < w.heap.size → w.cell? a = some u → W2.cell? a = some u := fun a u ha hu => by
    rw [hW2, World.cell?_of_block (w := W1) (setRow_other W1 _ _ _ (by omega))]; exact hcell1 a u hu
  -- the second copy
  have hr2 := run_copy_rowK (P := Try.prog) W2.drew 65 65 3 29 i0 w.heap.size (1) cap (c2 - 1) ⟨g, 0, none⟩ cap cap L1.toArray 29 xs Try.underlying65 hi0 hh2 (by rw [hz1, hlen, show Nat.min cap cap = cap from Nat.min_self _]) (fun j u hu => hcell2 _ _ (by rw [Addr.add_lit]; exact hgs) (hcells j u hu)) (by rw [hlen]; simp [hl1]; omega) h1x
  obtain ⟨L2, hL2⟩ : ∃ L2, L2 = splice L1 (1) xs := ⟨_, rfl⟩
  rw [show L1.toArray.toList = L1 from rfl, ← hL2] at hr2
  have hl2 : L2.length = c2 * 1 := by rw [hL2, length_splice _ _ _ (by rw [hlen, hl1]; omega), hl1]
  have ht2 : L2.take ((cap + 1) * 1) = news ++ xs := by
    have e0 : L1.take (1) = news := ht1
    rw [hL2]; unfold splice; rw [e0, ← List.append_assoc, List.take_append_of_le_length (by simp [hnl, hlen]; omega)]
    exact List.take_of_length_le (by simp [hnl, hlen]; omega)
  obtain ⟨W3, hW3⟩ : ∃ W3, W3 = W2.drew.setRow w.heap.size L2.toArray := ⟨_, rfl⟩
  rw [← hW3] at hr2
  have hfin : Hid (W3.ownsRow B 29 1 (.slice (some ⟨w.heap.size, 0, none⟩) (cap + 1) c2) (cap + 1) (news ++ xs)) := by
    refine ownsRow_mk L2.toArray hB ?_ hge hcm2 (by simpa using hl2) (by simpa using ht2)
    rw [hW3]; exact setRow_heap _ _ _ _ _ _ hh2
  have hgr : Hid (w.grownBy W3 none) := by
    refine ⟨by rw [hW3, hW2, hW1]; rfl, by rw [hW3, hW2, hW1]; rfl, by rw [hW3, hW2, hW1]; rfl, by rw [hW3, hW2, hW1]; simp [World.setRow], fun k hk _ => ?_⟩
    rw [hW3, setRow_other W2.drew _ _ _ (by omega)]
    show W2.heap[k]? = _
    rw [hW2, setRow_other W1 _ _ _ (by omega), hW1]
    exact Below.heap_alloc w.drew _ k hk
  have H0 : Hid ((Builtin.append_ #[65, 3] 65 #[.slice (some ⟨g, 0, none⟩) 0 cap, .int .i64 ((cap : Int) + 1)]).run Try.prog w = .ok (.slice (some ⟨w.heap.size, 0, none⟩) (cap + 1) c2) W1) := by
    have h := hr0
    simp only [Int.natCast_add, Int.cast_ofNat_Int] at h
    exact h
  have H1 : Hid ((Builtin.copy_ #[65, 65] 3 #[.slice (some ⟨w.heap.size, 0, none⟩) (cap + 1) c2, .slice (some ⟨gv, 0, none⟩) 1 1]).run Try.prog W1 = .ok (goInt (Nat.min 1 (cap + 1))) W2) := hr1
  have H2 : Hid ((Builtin.copy_ #[65, 65] 3 #[.slice (some ⟨w.heap.size, 1, none⟩) cap (c2 - 1), .slice (some ⟨g, 0, none⟩) cap cap]).run Try.prog W2.drew = .ok (.int .i64 cap) W3) := by
    have h := hr2
    rw [show Nat.min cap cap = cap from Nat.min_self _] at h
    exact h
  have hck : (cap : Int) ≤ 1000 := by omega
  have hc2' : (c2 : Int) ≤ 9223372036854775807 := by unfold maxLen at hcm2; omega
  have hne : ((0 : Int) == (cap : Int)) = false := beq_eq_false_iff_ne.2 (by omega)
  have hgt : (cap : Int) < (cap : Int) + 1 := by omega
  have hc1 : ¬ c2 = 1 := by omega
  have hc0 : ¬ c2 = 0 := by omega
  have hk0 : ¬ cap = 0 := by omega
  have hwr1 : IntKind.i64.wrap 1 = 1 := by rw [IntKind.wrap_i64]; omega
  have hle1 : (1 : Int) ≤ (cap : Int) + 1 := by omega
  clear hr0 hr1 hr2 hL1 hL2 hl1 hl2 ht1 ht2 hW1 hW2 hW3 hh1 hh2 hcell1 hcell2 hi0 hz0 hz1 hz2 hnews h1c h1x hnl hown hlen hcells hg hcs ht hcm hcm2 hZ hZs hc2 hnx hnc hgrow
  go_enter Try.func41, Try.ntmps41
  go_wp2_with (first | (at_builtin; refine wpList_append_by _ rfl (.tmp 34) (.tmp 39) 65 3 rfl _ _ rfl rfl H0.out ?_) | (refine wpList_copy_by _ rfl (.tmp 43) (.tmp 44) 65 65 rfl _ _ rfl rfl H1.out ?_))
  go_region_law (refine step_copy_by rfl (.tmp 50) (.tmp 53) 65 65 rfl (.slice (some ⟨w.heap.size, 1, none⟩) cap (c2 - 1)) (.slice (some ⟨g, 0, none⟩) cap cap) (by simp [go_sem]) (by simp [go_sem]) H2.out ?_)
  go_wp2
  go_ret
  exact ⟨c2, rfl, hfin.out, hgr.out⟩

end Go.Proofs.Qxb6613550a
