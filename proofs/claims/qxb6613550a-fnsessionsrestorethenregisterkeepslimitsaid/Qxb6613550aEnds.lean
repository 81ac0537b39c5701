/-
  node.first, node.last: the lowest and the highest entry of a tree.
-/
import Derived.Test.Qxb6613550aFillPrep
import Derived.Deep.LoopGhost
import Derived.Handy
namespace Go.Proofs.Qxb6613550a
open Go.RowKit
set_option linter.unusedVariables false

abbrev Z64 : Obj := .cells #[.int .u64 0, .int .u64 0, .int .u64 0, .nilIface] 64

theorem cont_first {σ : Sto} {h b : Nat} {nd : ND} (hw : WF σ (h + 1) b) (hb : σ b = some nd) {c : Nat} {l : List Nat} (hc : nd.cs = c :: l) : ∃ T, cont σ (h + 1) b = cont σ h c ++ T := by
  rw [cont_succ hb, hc]; exact ⟨_, rfl⟩
theorem cont_last {σ : Sto} {h b : Nat} {nd : ND} (hw : WF σ (h + 1) b) (hb : σ b = some nd) {c : Nat} {l : List Nat} (hc : nd.cs = l ++ [c]) : ∃ T, cont σ (h + 1) b = T ++ cont σ h c := by
  obtain ⟨s1, _⟩ := hw.succ hb
  have hle : l.length = nd.es.length := by rw [hc] at s1; simp at s1; omega
  rw [cont_succ hb, hc, List.map_append, List.map_cons]
  have := weave_split (l.map (cont σ h)) (cont σ h c) [] nd.es [] (by simpa using hle)
  rw [List.append_nil] at this
  rw [List.map_nil, this]
  exact ⟨pre (l.map (cont σ h)) nd.es, by simp [suf]⟩

set_option maxHeartbeats 800000 in
set_option maxRecDepth 100000 in
theorem first_any (B : Nat) (σ : Sto) (h b : Nat) (w : World) (hI : Inv B w σ) (hB : B ≤ w.heap.size) (hw : WF σ h b) (hpos : h = 0 → 0 < nE σ b) :
    Calls Try.prog 28 #[.pointer (some ⟨b, 0, none⟩)] w fun e w' => ∃ y Q, e = .returned (entVal y) ∧ cont σ h b = y :: Q ∧ Below w.heap.size w w' := by
  have HI : Hid (Inv B (w.alloc Z64) σ) := hI.alloc _
  have HW : Hid (WF σ h b ∧ (h = 0 → 0 < nE σ b)) := ⟨hw, hpos⟩
  clear hI hw hpos
  go_enter Try.func28, Try.ntmps28
  go_wp2
  go_loopg [0] h (fun k p wr => ∃ b' : Nat, p = .pointer (some ⟨b', 0, none⟩) ∧ wr = w.alloc Z64 ∧ Hid (WF σ k b' ∧ (k = 0 → 0 < nE σ b') ∧ ∃ T, cont σ h b = cont σ k b' ++ T))
  case atStart => exact ⟨b, rfl, rfl, HW.out.1, HW.out.2, [], by simp⟩
  case round =>
    obtain ⟨b', rfl, hwr, hR⟩ := hrel
    subst hwr
    obtain ⟨nd, hnd, -, hlf, -⟩ := hR.out.1.get
    have nN := HI.out.node b' nd hnd
    have HND : Hid (σ b' = some nd) := hnd
    cases gk with
    | zero =>
      have hz := (hR.out.1.zero hnd).1
      have hcb : nd.cs.isEmpty = true := by rw [hz]; rfl
      have HCB := (show Hid _ from hcb)
      have hnp : 0 < nd.es.length := by rw [← nE_of hnd]; exact hR.out.2.1 rfl
      obtain ⟨g, l, cap, HV, hl0, hl1, c1, -, -⟩ := nN.rowE hnp
      obtain ⟨x0, x1, x2, x3⟩ := nN.entry HV.out.1 hnp
      simp only [Nat.zero_mul, Nat.zero_add] at x0 x1 x2 x3
      obtain ⟨y, hy⟩ : ∃ y, nd.es[0] = y := ⟨_, rfl⟩
      rw [hy] at x0 x1 x2
      have HY := (show Hid _ from hy)
      have HNP := (show Hid _ from hnp)
      have hlI : (0 : Int) < l := by omega
      clear hz hcb hnd hy hlf
      go_wp2_with fail
      refine (leaf_any B b' nd _ nN).mono ?_
      rintro e w' ⟨rfl, hw'⟩
      subst w'
      rw [HCB.out]
      clear nN
      go_wp2
      go_returns
      refine ⟨y, ?_⟩
      obtain ⟨T, hT⟩ := hR.out.2.2
      have h1 : cont σ 0 b' = y :: nd.es.tail := by
        have hnp := HNP.out
        have hyy := HY.out
        simp only [cont, ents_of HND.out]
        cases hq : nd.es with
        | nil => rw [hq] at hnp; simp at hnp
        | cons z zs => simp only [hq] at hyy; rw [← hyy]; rfl
      exact ⟨nd.es.tail ++ T, rfl, by rw [hT, h1]; rfl, (Below.refl _ _).alloc (Nat.le_refl _) _⟩
    | succ k =>
      obtain ⟨c, l, hcl⟩ : ∃ c l, nd.cs = c :: l := by
        cases hq : nd.cs with
        | nil => exact absurd hq (hR.out.1.ne hnd)
        | cons c l => exact ⟨c, l, rfl⟩
      have hcb : nd.cs.isEmpty = false := by rw [hcl]; rfl
      have HCB := (show Hid _ from hcb)
      have hnp : 0 < nd.cs.length := by rw [hcl]; simp
      obtain ⟨g, ln, cap, HV, hl0, hl1, c2, -, -⟩ := nN.rowC hnp
      have x0 := nN.kid HV.out.1 hnp
      have hc0 : nd.cs[0] = c := by simp [hcl]
      rw [hc0] at x0
      have HC := (show Hid _ from hcl)
      have hlI : (0 : Int) < ln := by omega
      have hnext : Hid (WF σ k c ∧ (k = 0 → 0 < nE σ c) ∧ ∃ T, cont σ h b = cont σ k c ++ T) := by
        obtain ⟨s1, s2, s3, s4⟩ := hR.out.1.succ hnd
        have hk := s4 c (by rw [hcl]; simp)
        obtain ⟨T, hT⟩ := hR.out.2.2
        obtain ⟨T', hT'⟩ := cont_first hR.out.1 hnd hcl
        exact ⟨hk.1, fun _ => by have := hk.2; omega, T' ++ T, by rw [hT, hT']; simp⟩
      clear hcb hnd hcl hlf hc0 hnp
      go_wp2_with fail
      refine (leaf_any B b' nd _ nN).mono ?_
      rintro e w' ⟨rfl, hw'⟩
      subst w'
      rw [HCB.out]
      clear nN
      go_wp2
      go_roundg k
      case measure => omega
      case rel => exact ⟨c, rfl, rfl, hnext⟩

set_option maxHeartbeats 1600000 in
set_option maxRecDepth 100000 in
theorem last_any (B : Nat) (σ : Sto) (h b : Nat) (w : World) (hI : Inv B w σ) (hB : B ≤ w.heap.size) (hw : WF σ h b) (hpos : h = 0 → 0 < nE σ b) :
    Calls Try.prog 27 #[.pointer (some ⟨b, 0, none⟩)] w fun e w' => ∃ y Q, e = .returned (entVal y) ∧ cont σ h b = Q ++ [y] ∧ Below w.heap.size w w' := by
  have HI0 : Hid (Inv B (w.alloc Z64) σ) := hI.alloc _
  have HW : Hid (WF σ h b ∧ (h = 0 → 0 < nE σ b)) := ⟨hw, hpos⟩
  clear hI hw hpos
  go_enter Try.func27, Try.ntmps27
  go_wp2
  go_loopg [0] h (fun k p wr => ∃ (b' : Nat) (n : Nat), p = .pointer (some ⟨b', 0, none⟩) ∧ wr = (w.alloc Z64).drewN n ∧ Hid (WF σ k b' ∧ (k = 0 → 0 < nE σ b') ∧ ∃ T, cont σ h b = T ++ cont σ k b'))
  case atStart => exact ⟨b, 0, rfl, rfl, HW.out.1, HW.out.2, [], by simp⟩
  case round =>
    obtain ⟨b', n, rfl, hwr, hR⟩ := hrel
    subst hwr
    obtain ⟨nd, hnd, -, hlf, -⟩ := hR.out.1.get
    have nN := HI0.out.node b' nd hnd
    have nNn := (HI0.out.drewN n).node b' nd hnd
    have HND : Hid (σ b' = some nd) := hnd
    cases gk with
    | zero =>
      have hz := (hR.out.1.zero hnd).1
      have hcb : nd.cs.isEmpty = true := by rw [hz]; rfl
      have HCB := (show Hid _ from hcb)
      have hnp : 0 < nd.es.length := by rw [← nE_of hnd]; exact hR.out.2.1 rfl
      obtain ⟨g, l, cap, HV, hl0, hl1, c1, -, -⟩ := nN.rowE hnp
      obtain ⟨q, hq⟩ : ∃ q, l = q + 1 := ⟨l - 1, by omega⟩
      subst hq
      have hql : q < nd.es.length := by have := HV.out.2; omega
      obtain ⟨x0, x1, x2, x3⟩ := nN.entry HV.out.1 hql
      obtain ⟨y, hy⟩ : ∃ y, nd.es[q] = y := ⟨_, rfl⟩
      rw [hy] at x0 x1 x2
      have HY := (show Hid (∃ hq : q < nd.es.length, nd.es[q] = y) from ⟨hql, hy⟩)
      have hlI : (q : Int) < (q : Int) + 1 := by omega
      have hjw3 : (q : Int) + 1 - 1 = q := by omega
      have hjw2 : IntKind.i64.wrap (q : Int) = q := IntWalk.i64_in _ (by omega)
      clear hz hcb hnd hy hlf hql hnp
      go_wp2_with fail
      refine (leaf_any B b' nd _ nNn).mono ?_
      rintro e w' ⟨rfl, hw'⟩
      subst w'
      rw [HCB.out]
      clear nN nNn
      go_wp2_with fail
      go_upto_region 3 with fail
      apply wp_region_one
      case h =>
        go_region_law (fail)
        all_goals exact ⟨rfl, rfl⟩
      case k =>
        go_wp2_with fail
        go_returns
        refine ⟨y, ?_⟩
        obtain ⟨T, hT⟩ := hR.out.2.2
        have h1 : cont σ 0 b' = nd.es.take q ++ [y] := by
          obtain ⟨hq, hyy⟩ := HY.out
          have hlen := HV.out.2
          simp only [cont, ents_of HND.out]
          rw [← hyy, List.take_append_getElem, List.take_of_length_le (by omega)]
        refine ⟨T ++ nd.es.take q, rfl, by rw [hT, h1]; simp, ?_⟩
        refine Below.setCell ?_ (p := ⟨w.heap.size, 3, none⟩) (Nat.le_refl _) _
        refine Below.setCell ?_ (p := ⟨w.heap.size, 2, none⟩) (Nat.le_refl _) _
        refine Below.setCell ?_ (p := ⟨w.heap.size, 1, none⟩) (Nat.le_refl _) _
        refine Below.setCell ?_ (p := ⟨w.heap.size, 0, none⟩) (Nat.le_refl _) _
        exact ((Below.refl w.heap.size w).alloc (Nat.le_refl _) Z64).trans ⟨rfl, rfl, rfl, Nat.le_refl _, fun _ _ => rfl⟩
    | succ k =>
      obtain ⟨l, c, hcl⟩ := snoc_of (hR.out.1.ne hnd)
      have hcb : nd.cs.isEmpty = false := by rw [hcl]; cases l <;> rfl
      have HCB := (show Hid _ from hcb)
      have hnp : 0 < nd.cs.length := by rw [hcl]; simp
      obtain ⟨g, ln, cap, HV, hl0, hl1, c2, -, -⟩ := nN.rowC hnp
      obtain ⟨q, hq⟩ : ∃ q, ln = q + 1 := ⟨ln - 1, by omega⟩
      subst hq
      have hql : q < nd.cs.length := by have := HV.out.2; omega
      have x0 := nN.kid HV.out.1 hql
      have hc0 : nd.cs[q] = c := by
        have h1 := HV.out.2
        have h2 : q = l.length := by rw [hcl] at h1; simp at h1; omega
        subst h2
        simp [hcl]
      rw [hc0] at x0
      have hlI : (q : Int) < (q : Int) + 1 := by omega
      have hjw3 : (q : Int) + 1 - 1 = q := by omega
      have hjw2 : IntKind.i64.wrap (q : Int) = q := IntWalk.i64_in _ (by omega)
      have hnext : Hid (WF σ k c ∧ (k = 0 → 0 < nE σ c) ∧ ∃ T, cont σ h b = T ++ cont σ k c) := by
        obtain ⟨s1, s2, s3, s4⟩ := hR.out.1.succ hnd
        have hk := s4 c (by rw [hcl]; simp)
        obtain ⟨T, hT⟩ := hR.out.2.2
        obtain ⟨T', hT'⟩ := cont_last hR.out.1 hnd hcl
        exact ⟨hk.1, fun _ => by have := hk.2; omega, T ++ T', by rw [hT, hT']; simp⟩
      clear hcb hnd hcl hlf hc0 hnp hql
      go_wp2_with fail
      refine (leaf_any B b' nd _ nNn).mono ?_
      rintro e w' ⟨rfl, hw'⟩
      subst w'
      rw [HCB.out]
      clear nN nNn
      go_wp2
      go_quiet (fail)
      go_wp2
      go_roundg k
      case measure => omega
      case rel => exact ⟨c, n + nq, rfl, World.drewN_drewN _ _ _, hnext⟩
end Go.Proofs.Qxb6613550a
