import Derived.Test.Qxb6613550aRowBase
namespace Go.Proofs.Qxb6613550a
open Go.RowKit

set_option maxHeartbeats 1600000 in
set_option maxRecDepth 100000 in
/-- slices.Delete(s, i, i+1). -/
theorem sdelE (B g p cap i : Nat) (xs : List Value) (w : World) (hown : w.ownsRow B 64 4 (.slice (some ⟨g, 0, none⟩) (p + 1) cap) (p + 1) xs) (hi : i ≤ p) (hn : p ≤ 1000) (h1c : ∀ u ∈ xs, u.oneCell' = true) :
    Calls Try.prog 26 #[.slice (some ⟨g, 0, none⟩) (p + 1) cap, .int .i64 i, .int .i64 ((i : Int) + 1)] w fun e w' =>
      e = .returned (.slice (some ⟨g, 0, none⟩) p cap) ∧ w'.ownsRow B 64 4 (.slice (some ⟨g, 0, none⟩) p cap) p (xs.take (i * 4) ++ xs.drop ((i + 1) * 4)) ∧ w.grownBy w' (some g) := by
  obtain ⟨i0, hi0, hz0, hz1, hz2⟩ := info_parts infoE
  have hlen := hown.1
  have hcells := hown.cells (g := g) rfl
  obtain ⟨cur, hB, hg, hnc, hcm, hcs, ht⟩ := ownsRow_row hown
  obtain ⟨news, hnews⟩ : ∃ news, news = xs.drop ((i + 1) * 4) := ⟨_, rfl⟩
  have hnl : news.length = (p - i) * 4 := by rw [hnews, List.length_drop, hlen]; omega
  -- where 's[i+1:]' begins
  obtain ⟨A, hA, hcell⟩ : ∃ A : Addr, (if cap = i + 1 then some (⟨g, 0, none⟩ : Addr) else some ⟨g, (i + 1) * 4, none⟩) = some A ∧ ∀ j u, news[j]? = some u → w.cell? (A.add j) = some u := by
    by_cases hc : cap = i + 1
    · refine ⟨⟨g, 0, none⟩, by simp [hc], fun j u hu => ?_⟩
      have := (List.getElem?_eq_some_iff.1 hu).1
      omega
    · refine ⟨⟨g, (i + 1) * 4, none⟩, by simp [hc], fun j u hu => ?_⟩
      rw [hnews, List.getElem?_drop] at hu
      have := hcells _ _ hu
      rw [Addr.add_lit] at this ⊢
      rw [← this]
      congr 2
      omega
  have hrun := run_append_room (P := Try.prog) w.drew 61 61 64 i0 Try.underlying61 hi0 g i cap cur hg A (p - i) (cap - (i + 1)) news (by rw [hz1]; exact hnl) (fun j u hu => hcell j u hu) (fun u hu => h1c u (by rw [hnews] at hu; exact List.mem_of_mem_drop hu)) (by omega) (by rw [hz1, hnl, hcs]; omega)
  rw [hz1, show i + (p - i) = p from by omega] at hrun
  obtain ⟨L1, hL1⟩ : ∃ L1, L1 = cur.toList.take (i * 4) ++ news ++ cur.toList.drop (i * 4 + news.length) := ⟨_, rfl⟩
  rw [← hL1] at hrun
  have HR : Hid ((Builtin.append_ #[61, 61] 61 #[.slice (some ⟨g, 0, none⟩) i cap, .slice (some A) (p - i) (cap - (i + 1))]).run Try.prog w.drew = .ok (.slice (some ⟨g, 0, none⟩) p cap) (w.drew.setRow g L1.toArray)) := hrun
  have hl1 : L1.length = cap * 4 := by rw [hL1]; simp; omega
  have ht1 : L1.take (p * 4) = xs.take (i * 4) ++ news := by
    have e1 : cur.toList.take (i * 4) = xs.take (i * 4) := by rw [← ht, List.take_take, Nat.min_eq_left (by omega)]
    rw [hL1, e1, List.take_append_of_le_length (by simp; omega), List.take_of_length_le (by simp; omega)]
  have hrc := run_clear_rowK (P := Try.prog) (w.drew.setRow g L1.toArray) 61 0 64 (.agg #[.int .u64 0, .int .u64 0, .int .u64 0, .nilIface]) Try.underlying61 zeroE g ((p) * 4) 1 (cap - p) (by omega) L1.toArray 64 (setRow_heap w.drew g cur _ 64 (0, 0) hg) (by simp [Value.cells, hl1]; omega) (zeroCells_one _ _ (by simp [Value.cells] <;> decide))
  rw [setRow_setRow] at hrc
  obtain ⟨L2, hL2⟩ : ∃ L2, L2 = splice L1 ((p) * 4) (Builtin.zeroCells ((.agg #[.int .u64 0, .int .u64 0, .int .u64 0, .nilIface]) : Value).cells 1).toList := ⟨_, rfl⟩
  rw [show L1.toArray.toList = L1 from rfl, ← hL2] at hrc
  have HC : Hid ((Builtin.clear_ #[61] 0 #[.slice (some ⟨g, (p) * 4, none⟩) 1 (cap - p)]).run Try.prog (w.drew.setRow g L1.toArray) = .ok (.tuple #[]) (w.drew.setRow g L2.toArray)) := hrc
  have hl2 : L2.length = cap * 4 := by rw [hL2, length_splice _ _ _ (by simp [size_zeroCells, Value.cells, hl1]; omega), hl1]
  have ht2 : L2.take (p * 4) = xs.take (i * 4) ++ xs.drop ((i + 1) * 4) := by
    rw [hL2, ← hnews, ← ht1]
    simpa using take_splice L1 ((p) * 4) (Builtin.zeroCells ((.agg #[.int .u64 0, .int .u64 0, .int .u64 0, .nilIface]) : Value).cells 1).toList (by rw [hl1]; omega)
  have hfin : Hid ((w.drew.setRow g L2.toArray).ownsRow B 64 4 (.slice (some ⟨g, 0, none⟩) p cap) p (xs.take (i * 4) ++ xs.drop ((i + 1) * 4))) :=
    ownsRow_mk _ hB (setRow_heap w.drew g cur _ 64 (0, 0) hg) (by omega) hcm (by simpa using hl2) (by simpa using ht2)
  have hgr : Hid (w.grownBy (w.drew.setRow g L2.toArray) (some g)) := grownBy_drewSetRow w g _
  have hck : (p : Int) ≤ 1000 := by omega
  have hcap : (cap : Int) ≤ 9223372036854775807 := by unfold maxLen at hcm; omega
  have hne : ((i : Int) == (i : Int) + 1) = false := beq_eq_false_iff_ne.2 (by omega)
  have hp0 : (0 : Int) ≤ (i : Int) + 1 := by omega
  have hp1 : (i : Int) + 1 ≤ (p : Int) + 1 := by omega
  have hp2 : ((i : Int) + 1).toNat = i + 1 := by omega
  have hp3 : ((p : Int) + 1).toNat = p + 1 := by omega
  have hic : i ≤ cap := by omega
  have hpc : ¬ cap = p := by omega
  have hpi : p + 1 - (i + 1) = p - i := by omega
  clear hg hcs ht hcm hnews hnl hrun hown hlen hcells hcell hi0 hz0 hz1 hz2 h1c hL1 hL2 hl1 hl2 ht1 ht2 hrc
  go_enter Try.func26, Try.ntmps26
  go_wp2_with fail
  go_region_law (refine step_append_by rfl (.tmp 22) (.tmp 25) 61 61 rfl _ _ rfl rfl HR.out ?_)
  go_wp2_with (refine wpList_clear_by _ rfl (.tmp 31) 61 rfl _ rfl HC.out ?_)
  go_ret
  exact ⟨rfl, hfin.out, hgr.out⟩
set_option maxHeartbeats 1600000 in
set_option maxRecDepth 100000 in
/-- slices.Delete(s, i, i+1). -/
theorem sdelC (B g p cap i : Nat) (xs : List Value) (w : World) (hown : w.ownsRow B 29 1 (.slice (some ⟨g, 0, none⟩) (p + 1) cap) (p + 1) xs) (hi : i ≤ p) (hn : p ≤ 1000) (h1c : ∀ u ∈ xs, u.oneCell' = true) :
    Calls Try.prog 38 #[.slice (some ⟨g, 0, none⟩) (p + 1) cap, .int .i64 i, .int .i64 ((i : Int) + 1)] w fun e w' =>
      e = .returned (.slice (some ⟨g, 0, none⟩) p cap) ∧ w'.ownsRow B 29 1 (.slice (some ⟨g, 0, none⟩) p cap) p (xs.take (i * 1) ++ xs.drop ((i + 1) * 1)) ∧ w.grownBy w' (some g) := by
  obtain ⟨i0, hi0, hz0, hz1, hz2⟩ := info_parts infoC
  have hlen := hown.1
  have hcells := hown.cells (g := g) rfl
  obtain ⟨cur, hB, hg, hnc, hcm, hcs, ht⟩ := ownsRow_row hown
  obtain ⟨news, hnews⟩ : ∃ news, news = xs.drop ((i + 1) * 1) := ⟨_, rfl⟩
  have hnl : news.length = (p - i) * 1 := by rw [hnews, List.length_drop, hlen]; omega
  -- where 's[i+1:]' begins
  obtain ⟨A, hA, hcell⟩ : ∃ A : Addr, (if cap = i + 1 then some (⟨g, 0, none⟩ : Addr) else some ⟨g, (i + 1), none⟩) = some A ∧ ∀ j u, news[j]? = some u → w.cell? (A.add j) = some u := by
    by_cases hc : cap = i + 1
    · refine ⟨⟨g, 0, none⟩, by simp [hc], fun j u hu => ?_⟩
      have := (List.getElem?_eq_some_iff.1 hu).1
      omega
    · refine ⟨⟨g, (i + 1), none⟩, by simp [hc], fun j u hu => ?_⟩
      rw [hnews, List.getElem?_drop] at hu
      have := hcells _ _ hu
      rw [Addr.add_lit] at this ⊢
      rw [← this]
      congr 2
      omega
  have hrun := run_append_room (P := Try.prog) w.drew 65 65 29 i0 Try.underlying65 hi0 g i cap cur hg A (p - i) (cap - (i + 1)) news (by rw [hz1]; exact hnl) (fun j u hu => hcell j u hu) (fun u hu => h1c u (by rw [hnews] at hu; exact List.mem_of_mem_drop hu)) (by omega) (by rw [hz1, hnl, hcs]; omega)
  rw [hz1, show i + (p - i) = p from by omega] at hrun
  obtain ⟨L1, hL1⟩ : ∃ L1, L1 = cur.toList.take (i * 1) ++ news ++ cur.toList.drop (i * 1 + news.length) := ⟨_, rfl⟩
  rw [← hL1] at hrun
  have HR : Hid ((Builtin.append_ #[65, 65] 65 #[.slice (some ⟨g, 0, none⟩) i cap, .slice (some A) (p - i) (cap - (i + 1))]).run Try.prog w.drew = .ok (.slice (some ⟨g, 0, none⟩) p cap) (w.drew.setRow g L1.toArray)) := hrun
  have hl1 : L1.length = cap * 1 := by rw [hL1]; simp; omega
  have ht1 : L1.take (p * 1) = xs.take (i * 1) ++ news := by
    have e1 : cur.toList.take (i * 1) = xs.take (i * 1) := by rw [← ht, List.take_take, Nat.min_eq_left (by omega)]
    rw [hL1, e1, List.take_append_of_le_length (by simp; omega), List.take_of_length_le (by simp; omega)]
  have hrc := run_clear_rowK (P := Try.prog) (w.drew.setRow g L1.toArray) 65 0 29 (.pointer none) Try.underlying65 zeroC g ((p)) 1 (cap - p) (by omega) L1.toArray 29 (setRow_heap w.drew g cur _ 29 (0, 0) hg) (by simp [Value.cells, hl1]; omega) (zeroCells_one _ _ (by simp [Value.cells] <;> decide))
  rw [setRow_setRow] at hrc
  obtain ⟨L2, hL2⟩ : ∃ L2, L2 = splice L1 ((p)) (Builtin.zeroCells ((.pointer none) : Value).cells 1).toList := ⟨_, rfl⟩
  rw [show L1.toArray.toList = L1 from rfl, ← hL2] at hrc
  have HC : Hid ((Builtin.clear_ #[65] 0 #[.slice (some ⟨g, (p), none⟩) 1 (cap - p)]).run Try.prog (w.drew.setRow g L1.toArray) = .ok (.tuple #[]) (w.drew.setRow g L2.toArray)) := hrc
  have hl2 : L2.length = cap * 1 := by rw [hL2, length_splice _ _ _ (by simp [size_zeroCells, Value.cells, hl1]; omega), hl1]
  have ht2 : L2.take (p * 1) = xs.take (i * 1) ++ xs.drop ((i + 1) * 1) := by
    rw [hL2, ← hnews, ← ht1]
    simpa using take_splice L1 ((p)) (Builtin.zeroCells ((.pointer none) : Value).cells 1).toList (by rw [hl1]; omega)
  have hfin : Hid ((w.drew.setRow g L2.toArray).ownsRow B 29 1 (.slice (some ⟨g, 0, none⟩) p cap) p (xs.take (i * 1) ++ xs.drop ((i + 1) * 1))) :=
    ownsRow_mk _ hB (setRow_heap w.drew g cur _ 29 (0, 0) hg) (by omega) hcm (by simpa using hl2) (by simpa using ht2)
  have hgr : Hid (w.grownBy (w.drew.setRow g L2.toArray) (some g)) := grownBy_drewSetRow w g _
  have hck : (p : Int) ≤ 1000 := by omega
  have hcap : (cap : Int) ≤ 9223372036854775807 := by unfold maxLen at hcm; omega
  have hne : ((i : Int) == (i : Int) + 1) = false := beq_eq_false_iff_ne.2 (by omega)
  have hp0 : (0 : Int) ≤ (i : Int) + 1 := by omega
  have hp1 : (i : Int) + 1 ≤ (p : Int) + 1 := by omega
  have hp2 : ((i : Int) + 1).toNat = i + 1 := by omega
  have hp3 : ((p : Int) + 1).toNat = p + 1 := by omega
  have hic : i ≤ cap := by omega
  have hpc : ¬ cap = p := by omega
  have hpi : p + 1 - (i + 1) = p - i := by omega
  clear hg hcs ht hcm hnews hnl hrun hown hlen hcells hcell hi0 hz0 hz1 hz2 h1c hL1 hL2 hl1 hl2 ht1 ht2 hrc
  go_enter Try.func38, Try.ntmps38
  go_wp2_with fail
  go_region_law (refine step_append_by rfl (.tmp 22) (.tmp 25) 65 65 rfl _ _ rfl rfl HR.out ?_)
  go_wp2_with (refine wpList_clear_by _ rfl (.tmp 31) 65 rfl _ rfl HC.out ?_)
  go_ret
  exact ⟨rfl, hfin.out, hgr.out⟩
end Go.Proofs.Qxb6613550a
