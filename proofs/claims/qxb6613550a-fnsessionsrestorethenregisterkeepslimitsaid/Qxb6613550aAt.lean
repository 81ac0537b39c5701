/-
  Map.At of a rank that the map holds: it returns, and touches nothing that was there.
-/
import Derived.Test.Qxb6613550aFirst
import Derived.Test.Qxb6613550aSpTree
namespace Go.Proofs.Qxb6613550a
open Go.RowKit
set_option linter.unusedVariables false

/-- What is left of a node from child j on. -/
def restAt (σ : Sto) (g : Nat) (nd : ND) (j : Nat) : List Ent := weave ((nd.cs.drop j).map (cont σ g)) (nd.es.drop j)

theorem restAt_eq {σ : Sto} {g : Nat} {nd : ND} {j : Nat} (hj : j < nd.cs.length) : restAt σ g nd j = cont σ g nd.cs[j] ++ suf ((nd.cs.drop (j + 1)).map (cont σ g)) (nd.es.drop j) := by
  unfold restAt; rw [List.drop_eq_getElem_cons hj]; rfl

theorem restAt_next {σ : Sto} {g : Nat} {nd : ND} (h1 : nd.cs.length = nd.es.length + 1) {j : Nat} (hj : j < nd.cs.length) :
    (j < nd.es.length ∧ (restAt σ g nd j).length = (cont σ g nd.cs[j]).length + 1 + (restAt σ g nd (j + 1)).length) ∨ (restAt σ g nd j).length = (cont σ g nd.cs[j]).length := by
  rcases Nat.lt_or_ge j nd.es.length with h | h
  · left
    refine ⟨h, ?_⟩
    rw [restAt_eq hj, List.drop_eq_getElem_cons h, suf_ne (by simp; omega)]
    unfold restAt; simp; omega
  · right
    rw [restAt_eq hj, List.drop_of_length_le h]
    cases hq : (nd.cs.drop (j + 1)).map (cont σ g) <;> simp [suf]

set_option maxHeartbeats 6400000 in
set_option maxRecDepth 100000 in
theorem mapAt_any (B S : Nat) (σ : Sto) (h b : Nat) (n i : Int) (w : World) (hI : Inv B w σ) (hB : B ≤ w.heap.size) (hwf : WF σ h b) (hn : n = (cont σ h b).length) (hlen : (cont σ h b).length ≤ 5000) (h0 : w.cell? ⟨S, 0, none⟩ = some (.pointer (some ⟨b, 0, none⟩))) (h1 : w.cell? ⟨S, 1, none⟩ = some (.int .i64 n)) (hi0 : 0 ≤ i) (hi1 : i < n) :
    Calls Try.prog 19 #[.pointer (some ⟨S, 0, none⟩), .int .i64 i] w fun e w' => ∃ u v, e = .returned (.tuple #[.int .u64 u, v, .bool true]) ∧ Below w.heap.size w w' := by
  have a0 := alloc_cell0 Z47 h0
  have a1 := alloc_cell0 Z47 h1
  have HI : Hid (Inv B (w.alloc Z47) σ ∧ (w.alloc Z47).heap[w.heap.size]? = some Z47 ∧ Below w.heap.size w (w.alloc Z47)) := ⟨hI.alloc _, alloc_new0 w Z47, (Below.refl _ w).alloc (Nat.le_refl _) _⟩
  have HW : Hid (WF σ h b ∧ i < (cont σ h b).length ∧ (cont σ h b).length ≤ 5000) := ⟨hwf, by omega, hlen⟩
  have hni : ¬ i < 0 := by omega
  have hni2 : ¬ n ≤ i := by omega
  clear hI hwf hn hlen h0 h1
  go_enter Try.func19, Try.ntmps19
  go_wp2_with fail
  generalize w.alloc (.cells #[.int .u64 0, .int .u64 0, .nilIface] 47) = W0 at HI ⊢
  clear a0 a1 hni hni2 hi1
  have y0 : W0.cell? ⟨w.heap.size, 0, none⟩ = some (.int .u64 0) := by rw [cell_of_row W0 _ 0 _ 47 (0, 0) HI.out.2.1]; rfl
  have y1 : W0.cell? ⟨w.heap.size, 1, none⟩ = some (.int .u64 0) := by rw [cell_of_row W0 _ 1 _ 47 (0, 0) HI.out.2.1]; rfl
  have y2 : W0.cell? ⟨w.heap.size, 2, none⟩ = some .nilIface := by rw [cell_of_row W0 _ 2 _ 47 (0, 0) HI.out.2.1]; rfl
  have z0 : W0.frozen? ⟨w.heap.size, 0, none⟩ = false := by simp [World.frozen?, HI.out.2.1]
  have z1 : W0.frozen? ⟨w.heap.size, 1, none⟩ = false := by simp [World.frozen?, HI.out.2.1]
  have z2 : W0.frozen? ⟨w.heap.size, 2, none⟩ = false := by simp [World.frozen?, HI.out.2.1]
  go_loopg [1, 7, 8] h (fun g s1 s7 s8 wr => ∃ (b' : Nat) (i' : Int), s1 = .int .i64 i' ∧ s7 = .pointer (some ⟨b', 0, none⟩) ∧ wr = W0 ∧ 0 ≤ i' ∧ Hid (WF σ g b' ∧ i' < (cont σ g b').length ∧ (cont σ g b').length ≤ 5000))
  case atStart => exact ⟨b, i, rfl, rfl, rfl, hi0, HW.out⟩
  case round =>
    obtain ⟨b', i', rfl, rfl, hwr, hi', hR⟩ := hrel
    subst wr
    obtain ⟨nd, hnd, -, hlf, -⟩ := hR.out.1.get
    have nN := HI.out.1.node b' nd hnd
    have HND : Hid (σ b' = some nd) := hnd
    cases gk with
    | zero =>
      have hz := (hR.out.1.zero hnd).1
      have hcb : nd.cs.isEmpty = true := by rw [hz]; rfl
      have HCB := (show Hid _ from hcb)
      have hil : i' < nd.es.length := by have := hR.out.2.1; simpa [cont, ents_of hnd] using this
      obtain ⟨j, hj⟩ := Int.eq_ofNat_of_zero_le hi'
      subst hj
      have hjl : j < nd.es.length := by omega
      obtain ⟨g, l, cap, HV, hl0, hl1, c1, -, -⟩ := nN.rowE (by omega)
      have hjI : (j : Int) < l := by rw [HV.out.2]; omega
      obtain ⟨yk, yc, ys, hy⟩ : ∃ yk yc ys, nd.es[j] = ⟨yk, yc, ys⟩ := ⟨_, _, _, rfl⟩
      obtain ⟨x0, x1, x2, x3⟩ := nN.entry HV.out.1 (i := j) hjl
      rw [hy] at x0 x1 x2
      clear hy
      clear hz hcb hnd hlf hil hjl
      go_wp2_with fail
      refine (leaf_any B b' nd _ nN).mono ?_
      rintro e w' ⟨rfl, hw'⟩
      subst w'
      rw [HCB.out]
      clear nN
      go_wp2_with fail
      apply wp_region_one
      case h =>
        go_region_law (fail)
        all_goals exact ⟨rfl, rfl⟩
      case k =>
        go_wp2_with fail
        (try simp only [Exit.inBlock, Exit.then]); refine bodyPost_ret (results_triple (P := Try.prog) rfl _ _ w.heap.size 47 #[.int .u64 yc, .int .u64 ys, .nilIface] (0, 0) _ rfl (heap_setCell_at (j := 2) .nilIface (heap_setCell_at (j := 1) (.int .u64 ys) (heap_setCell_at (j := 0) (.int .u64 yc) HI.out.2.1))) Try.underlying47 rfl (by kernel_rfl)) rfl ?_
        exact ⟨yk, _, rfl, (((HI.out.2.2.setCell (p := ⟨w.heap.size, 0, none⟩) (Nat.le_refl _) _).setCell (p := ⟨w.heap.size, 1, none⟩) (Nat.le_refl _) _).setCell (p := ⟨w.heap.size, 2, none⟩) (Nat.le_refl _) _).drew⟩
    | succ g =>
      obtain ⟨s1, s2, s3, s4⟩ := hR.out.1.succ hnd
      have hcb : nd.cs.isEmpty = false := by cases hq : nd.cs with | nil => exact absurd hq (hR.out.1.ne hnd) | cons _ _ => rfl
      have HCB := (show Hid _ from hcb)
      obtain ⟨gc, lc, capc, HVC, hlc0, hlc1, c2, -, -⟩ := nN.rowC (by omega)
      have HRS : Hid (i' < (restAt σ g nd 0).length ∧ (restAt σ g nd 0).length ≤ 5000) := by
        have h1 : restAt σ g nd 0 = cont σ (g + 1) b' := by rw [cont_succ hnd]; rfl
        rw [h1]; exact hR.out.2
      have HS : Hid (nd.cs.length = nd.es.length + 1 ∧ ∀ c ∈ nd.cs, WF σ g c ∧ 15 ≤ nE σ c) := ⟨s1, s4⟩
      clear s1 s2 s3 s4 hcb hnd hlf
      go_wp2_with fail
      refine (leaf_any B b' nd _ nN).mono ?_
      rintro e w' ⟨rfl, hw'⟩
      subst w'
      rw [HCB.out]
      go_wp2_with fail
      go_loopw [1, 8] (fun s1 s8 wr => ∃ (j : Nat) (q : Int), s1 = .int .i64 q ∧ s8 = .int .i64 j ∧ wr = W0 ∧ 0 ≤ q ∧ q ≤ 5000 ∧ j ≤ 100 ∧ Hid (j < nd.cs.length ∧ q < (restAt σ g nd j).length ∧ (restAt σ g nd j).length ≤ 5000)) (fun _ s _ => nd.cs.length - (intOf s).toNat)
      case atStart => exact ⟨0, i', rfl, rfl, rfl, hi', by have := HRS.out; omega, by omega, by have := HS.out.1; omega, HRS.out⟩
      case round =>
        obtain ⟨j, q, rfl, rfl, hwr, hq0, hq1, hj100, hJ⟩ := hrel
        subst wr
        have hjl := hJ.out.1
        have hcm : nd.cs[j] ∈ nd.cs := List.getElem_mem hjl
        obtain ⟨c, hc⟩ : ∃ c, nd.cs[j] = c := ⟨_, rfl⟩
        have kc := nN.kid HVC.out.1 hjl
        have hnx := restAt_next (σ := σ) (g := g) HS.out.1 hjl
        rw [hc] at hcm kc hnx
        obtain ⟨nc, hnc, -⟩ := (HS.out.2 c hcm).1.get
        have nC := HI.out.1.node c nc hnc
        have hsz := (HS.out.2 c hcm).1.size hnc
        obtain ⟨z, hz⟩ : ∃ z, z = nc.size := ⟨_, rfl⟩
        have hzc : z = ((cont σ g c).length : Int) := by rw [hz]; exact hsz
        have HZ : Hid (z = nc.size) := hz
        have hjI : (j : Int) < lc := by rw [HVC.out.2]; omega
        have HC : Hid (WF σ g c) := (HS.out.2 c hcm).1
        have hz0 : 0 ≤ z := by omega
        have hz1 : z ≤ 5000 := by have := hJ.out.2.2; omega
        clear hz hsz hcm
        by_cases hqz : z ≤ q
        · have hjE : j < nd.es.length := by
            rcases hnx with h | h
            · exact h.1
            · have := hJ.out.2.1; omega
          have hlt2 : (restAt σ g nd j).length = (cont σ g c).length + 1 + (restAt σ g nd (j + 1)).length := by
            rcases hnx with h | h
            · exact h.2
            · have := hJ.out.2.1; omega
          have hw1 : IntKind.i64.wrap (z + 1) = z + 1 := IntWalk.i64_in _ (by omega)
          have hw2 : IntKind.i64.wrap (q - (z + 1)) = q - (z + 1) := IntWalk.i64_in _ (by omega)
          by_cases hneg : q - (z + 1) < 0
          · obtain ⟨gE, l, cap, HV, hl0, hl1, c1, -, -⟩ := nN.rowE (by omega)
            have hjEI : (j : Int) < l := by rw [HV.out.2]; omega
            obtain ⟨yk, yc, ys, hy⟩ : ∃ yk yc ys, nd.es[j] = ⟨yk, yc, ys⟩ := ⟨_, _, _, rfl⟩
            obtain ⟨x0, x1, x2, x3⟩ := nN.entry HV.out.1 (i := j) hjE
            rw [hy] at x0 x1 x2
            clear hy
            clear hnx hlt2 hjE hnc hc hjl hzc
            go_wp2_with fail
            refine (size_any B c nc _ nC).mono ?_
            rintro e w' ⟨rfl, hw'⟩
            subst w'
            rw [← HZ.out]
            go_wp2_with fail
            refine (size_any B c nc _ nC).mono ?_
            rintro e w' ⟨rfl, hw'⟩
            subst w'
            rw [← HZ.out]
            clear nN nC
            go_wp2_with fail
            apply wp_region_one
            case h =>
              go_region_law (fail)
              all_goals exact ⟨rfl, rfl⟩
            case k =>
              go_wp2_with fail
              (try simp only [Exit.inBlock, Exit.then]); refine bodyPost_ret (results_triple (P := Try.prog) rfl _ _ w.heap.size 47 #[.int .u64 yc, .int .u64 ys, .nilIface] (0, 0) _ rfl (heap_setCell_at (j := 2) .nilIface (heap_setCell_at (j := 1) (.int .u64 ys) (heap_setCell_at (j := 0) (.int .u64 yc) HI.out.2.1))) Try.underlying47 rfl (by kernel_rfl)) rfl ?_
              exact ⟨yk, _, rfl, (((HI.out.2.2.setCell (p := ⟨w.heap.size, 0, none⟩) (Nat.le_refl _) _).setCell (p := ⟨w.heap.size, 1, none⟩) (Nat.le_refl _) _).setCell (p := ⟨w.heap.size, 2, none⟩) (Nat.le_refl _) _).drew⟩
          · have HNX : Hid (j + 1 < nd.cs.length ∧ q - (z + 1) < (restAt σ g nd (j + 1)).length ∧ (restAt σ g nd (j + 1)).length ≤ 5000) := by
              have h1 := HS.out.1
              have h2 := hJ.out.2
              exact ⟨by omega, by omega, by omega⟩
            have hj99 : j < 100 := by omega
            clear hnx hlt2 hnc hc hjl hzc
            go_wp2_with fail
            refine (size_any B c nc _ nC).mono ?_
            rintro e w' ⟨rfl, hw'⟩
            subst w'
            rw [← HZ.out]
            go_wp2_with fail
            refine (size_any B c nc _ nC).mono ?_
            rintro e w' ⟨rfl, hw'⟩
            subst w'
            rw [← HZ.out]
            go_wp2_with fail
            go_roundw
            case rel => exact ⟨j + 1, q - (z + 1), by first | rfl | trivial, by go_num, by first | rfl | trivial, by omega, by omega, by omega, HNX.out⟩
            case measure => have := HNX.out.1; simp [intOf]; omega
        · have HNX : Hid (WF σ g c ∧ q < (cont σ g c).length ∧ (cont σ g c).length ≤ 5000) := ⟨HC.out, by omega, by omega⟩
          clear hnx hnc hc hjl hzc
          go_wp2_with fail
          refine (size_any B c nc _ nC).mono ?_
          rintro e w' ⟨rfl, hw'⟩
          subst w'
          rw [← HZ.out]
          go_wp2_with fail
          go_roundg g
          case measure => omega
          case rel => exact ⟨c, q, rfl, rfl, rfl, hq0, HNX.out⟩
end Go.Proofs.Qxb6613550a
