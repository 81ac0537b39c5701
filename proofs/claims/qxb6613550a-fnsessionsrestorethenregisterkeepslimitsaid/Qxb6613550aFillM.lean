/-
  Map.fill, the other ways: the child holds enough; it merges with the sibling behind it, or with the one before it.
-/
import Derived.Test.Qxb6613550aMerge
import Derived.Test.Qxb6613550aFillR
namespace Go.Proofs.Qxb6613550a
open Go.RowKit
set_option linter.unusedVariables false

set_option maxRecDepth 100000 in
theorem fill_enough (B S bp bc i : Nat) (np nc : ND) (σ : Sto) (w : World) (h : Inv B w σ) (hp : σ bp = some np) (hc : σ bc = some nc) (hkc : np.cs[i]? = some bc) (hc15 : 15 < nc.es.length) :
    Calls Try.prog 30 #[.pointer (some ⟨S, 0, none⟩), .pointer (some ⟨bp, 0, none⟩), .int .i64 (i : Int)] w fun e w' => e = .returned (.int .i64 (i : Int)) ∧ w' = w := by
  have nP := h.node bp np hp
  have nC := h.node bc nc hc
  have hjk : i < np.cs.length := (List.getElem?_eq_some_iff.1 hkc).1
  obtain ⟨gk, lk, capk, HVK, hlk0, hlk1, k0, -, -⟩ := nP.rowC (by omega)
  have kc : w.cell? ⟨gk, i, none⟩ = some (.pointer (some ⟨bc, 0, none⟩)) := by
    have := nP.kid HVK.out.1 (i := i) (by omega)
    rw [(List.getElem?_eq_some_iff.1 hkc).2] at this; exact this
  obtain ⟨gc, lc, capc, HVC, hlc0, hlc1, c1, -, -⟩ := nC.rowE (by omega)
  have hlc15 : 15 < (lc : Int) := by rw [HVC.out.2]; omega
  have hiI : (i : Int) < lk := by rw [HVK.out.2]; omega
  have hd1 : decide (15 < (lc : Int)) = true := by simp; omega
  clear hkc hp hc h nP nC hjk
  go_enter Try.func30, Try.ntmps30
  go_wp2
  go_ret
  exact ⟨rfl, rfl⟩

set_option maxHeartbeats 3200000 in
set_option maxRecDepth 100000 in
theorem fill_merge (B S bp bc br i : Nat) (np nc nr : ND) (e1 e2 : List Ent) (x : Ent) (c1 c2 : List Nat) (σ : Sto) (w : World) (h : Inv B w σ) (hB : B ≤ w.heap.size)
    (hp : σ bp = some np) (hc : σ bc = some nc) (hr : σ br = some nr) (hpc : bp ≠ bc) (hpr : bp ≠ br) (hcr : bc ≠ br)
    (hes : np.es = e1 ++ x :: e2) (hcs : np.cs = c1 ++ bc :: br :: c2) (hi1 : e1.length = i) (hi2 : c1.length = i) (hep : w.cell? ⟨S, 2, none⟩ = some (.int .u64 0))
    (hc15 : nc.es.length ≤ 15) (hc0 : 0 < nc.es.length) (hr15 : nr.es.length ≤ 15) (hno : NoLeft σ np i)
    (hnr : 0 < nr.es.length) (hsum : nc.es.length + nr.es.length ≤ 60) (hlf : nc.cs = [] ↔ nr.cs = []) (hsc : nc.cs.length + nr.cs.length ≤ 64)
    (hk1 : 0 ≤ nc.keys) (hk2 : nc.keys ≤ 1000000) (hk3 : 0 ≤ nr.keys) (hk4 : nr.keys ≤ 1000000) :
    Calls Try.prog 30 #[.pointer (some ⟨S, 0, none⟩), .pointer (some ⟨bp, 0, none⟩), .int .i64 (i : Int)] w fun e w' => e = .returned (.int .i64 (i : Int)) ∧ ∃ nc' np', Inv B w' (upd (upd σ bc nc') bp np') ∧ Kp B w w' ∧
      nc'.es = nc.es ++ x :: nr.es ∧ nc'.cs = nc.cs ++ nr.cs ∧ nc'.keys = mk2 nc nr ∧ np'.es = e1 ++ e2 ∧ np'.cs = c1 ++ bc :: c2 ∧ np'.keys = np.keys := by
  have HM := (show Hid _ from merge_any B S bp bc br i np nc nr e1 e2 x c1 c2 σ w h hB hp hc hr hpc hpr hcr hes hcs hi1 hi2 hep hnr hsum hlf hsc hk1 hk2 hk3 hk4)
  have nP := h.node bp np hp
  have nC := h.node bc nc hc
  have nR := h.node br nr hr
  have hkc : np.cs[i]? = some bc := by rw [hcs, ← hi2]; simp
  have hkr : np.cs[i + 1]? = some br := by rw [hcs, ← hi2]; simp
  have hjk : i + 1 < np.cs.length := (List.getElem?_eq_some_iff.1 hkr).1
  have hje : i < np.es.length := by rw [hes]; simp; omega
  obtain ⟨gk, lk, capk, HVK, hlk0, hlk1, k0, -, -⟩ := nP.rowC (by omega)
  obtain ⟨ge, le, cape, HVE, hle0, hle1, p1, -, -⟩ := nP.rowE (by omega)
  have kc : w.cell? ⟨gk, i, none⟩ = some (.pointer (some ⟨bc, 0, none⟩)) := by
    have := nP.kid HVK.out.1 (i := i) (by omega)
    rw [(List.getElem?_eq_some_iff.1 hkc).2] at this; exact this
  have kr : w.cell? ⟨gk, i + 1, none⟩ = some (.pointer (some ⟨br, 0, none⟩)) := by
    have := nP.kid HVK.out.1 (i := i + 1) (by omega)
    rw [(List.getElem?_eq_some_iff.1 hkr).2] at this; exact this
  obtain ⟨gc, lc, capc, HVC, hlc0, hlc1, q1, -, -⟩ := nC.rowE hc0
  obtain ⟨gr, lr, capr, HVR, hlr0, hlr1, r1, -, -⟩ := nR.rowE hnr
  have hd1 : decide (15 < (lc : Int)) = false := by rw [HVC.out.2]; simp; omega
  have hd3 : decide (15 < (lr : Int)) = false := by rw [HVR.out.2]; simp; omega
  have hlc15 : ¬ 15 < (lc : Int) := by rw [HVC.out.2]; omega
  have hlr15 : ¬ 15 < (lr : Int) := by rw [HVR.out.2]; omega
  have hiI : (i : Int) + 1 < lk := by rw [HVK.out.2]; omega
  have hiE : (i : Int) < le := by rw [HVE.out.2]; omega
  have hi100 : i < 100 := by omega
  have HS : Hid (σ bp = some np) := hp
  have HNO : Hid (NoLeft σ np i) := hno
  have HH : Hid (Inv B w σ) := h
  clear hkc hkr hp hc hr h nP nC nR hjk hje hno hes hcs hi1 hi2 hlf
  go_enter Try.func30, Try.ntmps30
  go_upto_region 5 with fail
  go_cut [33] from 14 to 50 (fun b wx => b = .bool false ∧ wx = w)
  case first =>
    have hg := HNO.out
    rcases hg with h0 | ⟨j, bl, nl, h0, hkl, hl, hl0, hl15⟩
    · subst h0
      go_wp2_with fail
      go_meet
      exact ⟨rfl, rfl⟩
    · subst h0
      have nP := HH.out.node bp np HS.out
      have nL := HH.out.node bl nl hl
      have kl : w.cell? ⟨gk, j, none⟩ = some (.pointer (some ⟨bl, 0, none⟩)) := by
        have hlt := (List.getElem?_eq_some_iff.1 hkl).1
        have := nP.kid HVK.out.1 (i := j) (by omega)
        rw [(List.getElem?_eq_some_iff.1 hkl).2] at this; exact this
      obtain ⟨gl, ll, capl, HVL, hll0, hll1, l1, -, -⟩ := nL.rowE hl0
      have hll15 : (ll : Int) ≤ 15 := by rw [HVL.out.2]; omega
      have hd2 : decide (15 < (ll : Int)) = false := by simp; omega
      have hjw3 : (j : Int) + 1 - 1 = j := by omega
      have hjlk : (j : Int) < lk := by omega
      clear nP nL hkl hl hl0 hl15
      go_wp2_with fail
      go_meet
      exact ⟨rfl, rfl⟩
  case rest =>
    obtain ⟨hb, hwc⟩ := hcut
    subst hb
    subst wc
    clear HNO HH HS
    go_wp2_with fail
    refine Calls.mono HM.out ?_
    rintro e w' ⟨rfl, nc', np', hpost⟩
    have HPO := (show Hid _ from hpost)
    clear hpost HM k0 p1 kc kr q1 r1
    go_wp2_with fail
    go_ret
    exact ⟨rfl, nc', np', HPO.out⟩

set_option maxHeartbeats 3200000 in
set_option maxRecDepth 100000 in
theorem fill_mergeL (B S bp bc br i : Nat) (np nc nr : ND) (e1 : List Ent) (x : Ent) (c1 : List Nat) (σ : Sto) (w : World) (h : Inv B w σ) (hB : B ≤ w.heap.size)
    (hp : σ bp = some np) (hc : σ bc = some nc) (hr : σ br = some nr) (hpc : bp ≠ bc) (hpr : bp ≠ br) (hcr : bc ≠ br)
    (hes : np.es = e1 ++ [x]) (hcs : np.cs = c1 ++ [bc, br]) (hi1 : e1.length = i) (hi2 : c1.length = i) (hep : w.cell? ⟨S, 2, none⟩ = some (.int .u64 0))
    (hc15 : nc.es.length ≤ 15) (hc0 : 0 < nc.es.length) (hr15 : nr.es.length ≤ 15)
    (hnr : 0 < nr.es.length) (hsum : nc.es.length + nr.es.length ≤ 60) (hlf : nc.cs = [] ↔ nr.cs = []) (hsc : nc.cs.length + nr.cs.length ≤ 64)
    (hk1 : 0 ≤ nc.keys) (hk2 : nc.keys ≤ 1000000) (hk3 : 0 ≤ nr.keys) (hk4 : nr.keys ≤ 1000000) :
    Calls Try.prog 30 #[.pointer (some ⟨S, 0, none⟩), .pointer (some ⟨bp, 0, none⟩), .int .i64 ((i : Int) + 1)] w fun e w' => e = .returned (.int .i64 (i : Int)) ∧ ∃ nc' np', Inv B w' (upd (upd σ bc nc') bp np') ∧ Kp B w w' ∧
      nc'.es = nc.es ++ x :: nr.es ∧ nc'.cs = nc.cs ++ nr.cs ∧ nc'.keys = mk2 nc nr ∧ np'.es = e1 ∧ np'.cs = c1 ++ [bc] ∧ np'.keys = np.keys := by
  have hm := merge_any B S bp bc br i np nc nr e1 [] x c1 [] σ w h hB hp hc hr hpc hpr hcr hes hcs hi1 hi2 hep hnr hsum hlf hsc hk1 hk2 hk3 hk4
  have HM := (show Hid _ from hm)
  have nP := h.node bp np hp
  have nC := h.node bc nc hc
  have nR := h.node br nr hr
  have hkc : np.cs[i]? = some bc := by rw [hcs, ← hi2]; simp
  have hkr : np.cs[i + 1]? = some br := by rw [hcs, ← hi2]; simp
  have hjk : i + 1 < np.cs.length := (List.getElem?_eq_some_iff.1 hkr).1
  have hje : np.es.length = i + 1 := by rw [hes]; simp; omega
  obtain ⟨gk, lk, capk, HVK, hlk0, hlk1, k0, -, -⟩ := nP.rowC (by omega)
  obtain ⟨ge, le, cape, HVE, hle0, hle1, p1, -, -⟩ := nP.rowE (by omega)
  have kc : w.cell? ⟨gk, i, none⟩ = some (.pointer (some ⟨bc, 0, none⟩)) := by
    have := nP.kid HVK.out.1 (i := i) (by omega)
    rw [(List.getElem?_eq_some_iff.1 hkc).2] at this; exact this
  have kr : w.cell? ⟨gk, i + 1, none⟩ = some (.pointer (some ⟨br, 0, none⟩)) := by
    have := nP.kid HVK.out.1 (i := i + 1) (by omega)
    rw [(List.getElem?_eq_some_iff.1 hkr).2] at this; exact this
  obtain ⟨gc, lc, capc, HVC, hlc0, hlc1, q1, -, -⟩ := nC.rowE hc0
  obtain ⟨gr, lr, capr, HVR, hlr0, hlr1, r1, -, -⟩ := nR.rowE hnr
  have hlei : le = i + 1 := by rw [HVE.out.2, hje]
  subst hlei
  have hd1 : decide (15 < (lc : Int)) = false := by rw [HVC.out.2]; simp; omega
  have hd3 : decide (15 < (lr : Int)) = false := by rw [HVR.out.2]; simp; omega
  have hlc15 : ¬ 15 < (lc : Int) := by rw [HVC.out.2]; omega
  have hlr15 : ¬ 15 < (lr : Int) := by rw [HVR.out.2]; omega
  have hiI : (i : Int) + 1 < lk := by rw [HVK.out.2]; omega
  have hi0 : (i : Int) < lk := by omega
  have hi100 : i < 100 := by omega
  have hjw3 : (i : Int) + 1 - 1 = i := by omega
  have hee : ¬ (i : Int) + 1 < (i : Int) + 1 := by omega
  have hde : decide ((i : Int) + 1 < (i : Int) + 1) = false := by simp
  clear hkc hkr hp hc hr h nP nC nR hjk hje hes hcs hi1 hi2 hlf hm
  go_enter Try.func30, Try.ntmps30
  go_wp2_with fail
  refine Calls.mono HM.out ?_
  rintro e w' ⟨rfl, nc', np', hpost⟩
  have HPO := (show Hid _ from hpost)
  clear hpost HM k0 p1 kc kr q1 r1
  go_wp2_with fail
  go_ret
  obtain ⟨a1, a2, a3, a4, a5, a6, a7, a8⟩ := HPO.out
  exact ⟨rfl, nc', np', a1, a2, a3, a4, a5, by rw [a6]; simp, a7, a8⟩
end Go.Proofs.Qxb6613550a
