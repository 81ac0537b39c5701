/-
  Map.merge: entry i of p and the whole of child i+1 go into child i.
-/
import Derived.Test.Qxb6613550aOps
import Derived.Deep.RegionHeldLaw
import Derived.Deep.CutRange
namespace Go.Proofs.Qxb6613550a
open Go.RowKit
set_option linter.unusedVariables false

theorem erase_second (c1 c2 : List Nat) (a b : Nat) : (c1 ++ a :: b :: c2).take (c1.length + 1) ++ (c1 ++ a :: b :: c2).drop (c1.length + 1 + 1) = c1 ++ a :: c2 := by
  have h1 : c1 ++ a :: b :: c2 = (c1 ++ [a]) ++ b :: c2 := by simp
  have h2 : c1.length + 1 = (c1 ++ [a]).length := by simp
  rw [h1, h2, List.take_left', List.drop_append]
  · simp
  · rfl

/-- The count of the merged node. -/
def mk2 (nc nr : ND) : Int := if nc.cs.isEmpty then nc.keys else nc.keys + (1 + nr.keys)

set_option maxHeartbeats 6400000 in
set_option maxRecDepth 100000 in
theorem merge_any (B S bp bc br i : Nat) (np nc nr : ND) (e1 e2 : List Ent) (x : Ent) (c1 c2 : List Nat) (σ : Sto) (w : World) (h : Inv B w σ) (hB : B ≤ w.heap.size)
    (hp : σ bp = some np) (hc : σ bc = some nc) (hr : σ br = some nr) (hpc : bp ≠ bc) (hpr : bp ≠ br) (hcr : bc ≠ br)
    (hes : np.es = e1 ++ x :: e2) (hcs : np.cs = c1 ++ bc :: br :: c2) (hi1 : e1.length = i) (hi2 : c1.length = i) (hep : w.cell? ⟨S, 2, none⟩ = some (.int .u64 0))
    (hnr : 0 < nr.es.length) (hsum : nc.es.length + nr.es.length ≤ 60) (hlf : nc.cs = [] ↔ nr.cs = []) (hsc : nc.cs.length + nr.cs.length ≤ 64)
    (hk1 : 0 ≤ nc.keys) (hk2 : nc.keys ≤ 1000000) (hk3 : 0 ≤ nr.keys) (hk4 : nr.keys ≤ 1000000) :
    Calls Try.prog 29 #[.pointer (some ⟨S, 0, none⟩), .pointer (some ⟨bp, 0, none⟩), .int .i64 i] w fun e w' => e = .returned (.tuple #[]) ∧ ∃ nc' np', Inv B w' (upd (upd σ bc nc') bp np') ∧ Kp B w w' ∧
      nc'.es = nc.es ++ x :: nr.es ∧ nc'.cs = nc.cs ++ nr.cs ∧ nc'.keys = mk2 nc nr ∧ np'.es = e1 ++ e2 ∧ np'.cs = c1 ++ bc :: c2 ∧ np'.keys = np.keys := by
  have nP := h.node bp np hp
  have hpl : 1 < np.cs.length := by rw [hcs]; simp; omega
  have hpe : 0 < np.es.length := by rw [hes]; simp; omega
  obtain ⟨gk, lk, capk, HVK, hlk0, hlk1, k0, -, -⟩ := nP.rowC (by omega)
  have hin : (i : Int) + 1 < lk := by rw [HVK.out.2, hcs]; simp; omega
  have k1 : w.cell? ⟨gk, i, none⟩ = some (.pointer (some ⟨bc, 0, none⟩)) := by
    have := nP.kid HVK.out.1 (i := i) (by rw [hcs]; simp; omega)
    simpa [hcs, ← hi2] using this
  have k2 : w.cell? ⟨gk, i + 1, none⟩ = some (.pointer (some ⟨br, 0, none⟩)) := by
    have := nP.kid HVK.out.1 (i := i + 1) (by rw [hcs]; simp; omega)
    simpa [hcs, ← hi2] using this
  have hown : ∀ n, NodeAt B (w.drewN n) bc nc := fun n => (h.drewN n).node bc nc hc
  have HP : Hid (np.cs = c1 ++ bc :: br :: c2 ∧ np.es = e1 ++ x :: e2 ∧ c1.length = i ∧ e1.length = i) := ⟨hcs, hes, hi2, hi1⟩
  have HS : Hid (σ bp = some np ∧ σ bc = some nc ∧ σ br = some nr) := ⟨hp, hc, hr⟩
  have HL : Hid (nc.cs = [] ↔ nr.cs = []) := hlf
  have HH : Hid (Inv B w σ) := h
  have hi100 : i ≤ 100 := by omega
  clear hes hcs hi1 hi2 hp hc hr hpl hpe nP hlf
  go_enter Try.func29, Try.ntmps29
  go_wp2
  go_quiet ((go_at_call 23; exact Calls.quiet_of (own_any B S bc nc ⟨gk, i, none⟩ _ (hown _) hep k1)))
  clear k0 k1 k2 hown hep hin hlk0 hlk1 h
  have HI : Hid (Inv B (w.drewN nq) σ ∧ Kp B w (w.drewN nq)) := ⟨HH.out.drewN nq, Kp.drewN B w nq⟩
  have hBW : B ≤ (w.drewN nq).heap.size := hB
  generalize w.drewN nq = W at HI hBW ⊢
  clear HH
  -- c.entries = append(append(c.entries, p.entries[i]), right.entries...)
  go_upto_region 1 with fail
  go_cut [] from 8 to 94 (fun wx => Hid (∃ nc1, Inv B wx (upd σ bc nc1) ∧ Kp B w wx ∧ nc1.es = nc.es ++ x :: nr.es ∧ nc1.cs = nc.cs ∧ nc1.keys = nc.keys))
  case first =>
    have nP := HI.out.1.node bp np HS.out.1
    have nC := HI.out.1.node bc nc HS.out.2.1
    have nR := HI.out.1.node br nr HS.out.2.2
    obtain ⟨ge, le, cape, HVE, hle0, hle1, p1, -, -⟩ := nP.rowE (by rw [HP.out.2.1]; simp; omega)
    have hix : ∃ hi : i < np.es.length, np.es[i] = x := ⟨by rw [HP.out.2.1]; simp; have := HP.out.2.2.2; omega, by have := HP.out; simp [this.2.1, ← this.2.2.2]⟩
    obtain ⟨hi, hix⟩ := hix
    obtain ⟨x0, x1, x2, x3⟩ := nP.entry HVE.out.1 hi
    rw [hix] at x0 x1 x2
    obtain ⟨gr, m, capr, HVR, hm0, hm1, q1, -, -⟩ := nR.rowE hnr
    have d1 := nC.cells.2.1
    obtain ⟨ac, capc, hvc⟩ := ownsRow_shape nC.ents
    have hie : (i : Int) < le := by rw [HVE.out.2]; omega
    obtain ⟨g1, cap1, w1, g2, cap2, w2, hr1, hr2, hh, hI1, hK1⟩ := mergeE HI.out.1.drew (by simpa using hBW) HS.out.2.1 HS.out.2.2 hcr x HVR.out.1 hm0 (by omega)
    obtain ⟨lc, hlc⟩ : ∃ lc, lc = nc.es.length := ⟨_, rfl⟩
    rw [← hlc] at hr1 hr2 hI1 hK1 hvc
    rw [hvc] at d1 hr1
    have s1 : w1.cell? ⟨bp, 1, none⟩ = some (.slice (some ⟨ge, 0, none⟩) le cape) := by rw [(hh bp np 1 HS.out.1).1]; exact p1
    have s2 : w1.cell? ⟨br, 1, none⟩ = some (.slice (some ⟨gr, 0, none⟩) m capr) := by rw [(hh br nr 1 HS.out.2.2).1]; exact q1
    have s3 : w2.cell? ⟨bp, 1, none⟩ = some (.slice (some ⟨ge, 0, none⟩) le cape) := by rw [(hh bp np 1 HS.out.1).2.2.1]; exact p1
    have s4 : w2.cell? ⟨br, 1, none⟩ = some (.slice (some ⟨gr, 0, none⟩) m capr) := by rw [(hh br nr 1 HS.out.2.2).2.2.1]; exact q1
    have s5 : w2.cell? ⟨bc, 1, none⟩ = some (.slice ac lc capc) := by rw [(hh bc nc 1 HS.out.2.1).2.2.1]; exact d1
    have s6 : w2.frozen? ⟨bc, 1, none⟩ = false := by rw [(hh bc nc 1 HS.out.2.1).2.2.2]; exact nC.free 1
    have ltp : bp < W.heap.size := heap_lt nP.hd
    have ltc : bc < W.heap.size := heap_lt nC.hd
    have ltr : br < W.heap.size := heap_lt nR.hd
    have HR1 := (show Hid _ from hr1)
    have HR2 := (show Hid _ from hr2)
    have HI1 := (show Hid _ from hI1)
    have HK1 : Hid (Kp B w _) := (HI.out.2.trans (Kp.drew B W)).trans hK1
    have hpc' : ¬ bp = bc := hpc
    have hrc' : ¬ br = bc := fun e => hcr e.symm
    clear hr1 hr2 hI1 hK1 hh hlc hvc nP nC nR hix hi hsum hnr
    apply wp_region_one
    case h =>
      go_region_law (first
        | (refine step_append_by rfl (.tmp 28) (.tmp 36) 61 61 rfl (.slice ac lc capc) (.slice (some ⟨W.drew.heap.size, 0, none⟩) 1 1) (by simp [go_sem]) (by simp [go_sem]) HR1.out ?_)
        | (refine step_append_by rfl (.tmp 37) (.tmp 41) 61 61 rfl (.slice (some ⟨g1, 0, none⟩) (lc + 1) cap1) (.slice (some ⟨gr, 0, none⟩) m capr) (by simp [go_sem]) (by simp [go_sem]) HR2.out ?_))
      all_goals exact ⟨rfl, rfl⟩
    case k =>
      go_wp2_with fail
      go_meet
      exact ⟨_, HI1.out, HK1.out, rfl, rfl, rfl⟩
  case rest =>
    have hBc : B ≤ wc.heap.size := by obtain ⟨_, _, hk, _⟩ := hcut.out; exact Nat.le_trans hB hk.size
    clear HI hBW
    obtain ⟨nc1, hI1, hK1, hes1, hcs1, hks1⟩ := hcut.out
    clear hcut
    have nC1 := hI1.node bc nc1 (upd_same _ _ _)
    have HI1 : Hid (Inv B wc (upd σ bc nc1) ∧ Kp B w wc ∧ nc1.es = nc.es ++ x :: nr.es ∧ nc1.cs = nc.cs ∧ nc1.keys = nc.keys) := ⟨hI1, hK1, hes1, hcs1, hks1⟩
    clear hI1 hK1 hes1 hcs1 hks1
    go_upto_region 2 with fail
    go_cut [47] from 8 to 94 (fun b wx => b = .bool (!nc.cs.isEmpty) ∧ wx = wc)
    case first =>
      have he : nc1.cs.isEmpty = nc.cs.isEmpty := by rw [HI1.out.2.2.2.1]
      have HE := (show Hid _ from he)
      clear he
      go_wp2_with fail
      refine (leaf_any B bc nc1 _ nC1).mono ?_
      rintro e w' ⟨rfl, hw⟩
      subst w'
      rw [HE.out]
      go_wp2_with fail
      go_meet
      exact ⟨rfl, rfl⟩
    case rest =>
      obtain ⟨hb47, hwc⟩ := hcut
      subst hwc
      subst hb47
      go_upto_if 47 with fail
      go_cut [] from 8 to 94 (fun wx => Hid (∃ nc2, Inv B wx (upd σ bc nc2) ∧ Kp B w wx ∧ nc2.es = nc.es ++ x :: nr.es ∧ nc2.cs = nc.cs ++ nr.cs ∧ nc2.keys = mk2 nc nr))
      case first =>
        by_cases hce : nc.cs = []
        · have hre : nr.cs = [] := HL.out.1 hce
          have hcb : nc.cs.isEmpty = true := by rw [hce]; rfl
          have HC : Hid (nc.cs = [] ∧ nr.cs = []) := ⟨hce, hre⟩
          have HCB := (show Hid (nc.cs.isEmpty = true) from hcb)
          clear hce hre hcb
          rw [HCB.out]
          go_wp2_with fail
          go_meet
          obtain ⟨h1, h2, h3, h4, h5⟩ := HI1.out
          exact ⟨nc1, h1, h2, h3, by rw [h4, HC.out.1, HC.out.2]; rfl, by rw [h5, mk2, HCB.out]; rfl⟩
        · have hre : nr.cs ≠ [] := fun e => hce (HL.out.2 e)
          have hcb : nc.cs.isEmpty = false := by cases hq : nc.cs with | nil => exact absurd hq hce | cons _ _ => rfl
          have HCB := (show Hid (nc.cs.isEmpty = false) from hcb)
          have nR := HI1.out.1.node br nr (by rw [upd_other _ _ _ _ (fun e => hcr e.symm)]; exact HS.out.2.2)
          have nC := HI1.out.1.node bc nc1 (upd_same _ _ _)
          have hr' : upd σ bc nc1 br = some nr := by rw [upd_other _ _ _ _ (fun e => hcr e.symm)]; exact HS.out.2.2
          obtain ⟨gr, m, capr, HVR, hm0, hm1, q2, -, -⟩ := nR.rowC (List.length_pos_iff.2 hre)
          have hcl : 0 < nc1.cs.length := by rw [HI1.out.2.2.2.1]; exact List.length_pos_iff.2 hce
          obtain ⟨gc, lc, capc, HVC, hl0, hl1, d2, -, -⟩ := nC.rowC hcl
          obtain ⟨g, cap, w1, hr1, hh, hI2, hK2⟩ := mergeC HI1.out.1.drew (by simpa using hBc) (upd_same _ _ _) hr' HVR.out.1 hm0 (by rw [HI1.out.2.2.2.1]; omega)
          rw [HVC.out.1] at hr1
          rw [← HVC.out.2] at hr1 hI2 hK2
          rw [upd_upd] at hI2
          have s2 : w1.cell? ⟨br, 2, none⟩ = some (.slice (some ⟨gr, 0, none⟩) m capr) := by rw [(hh br nr 2 hr').1]; exact q2
          have s5 : w1.cell? ⟨bc, 2, none⟩ = some (.slice (some ⟨gc, 0, none⟩) lc capc) := by rw [(hh bc nc1 2 (upd_same _ _ _)).1]; exact d2
          have s6 : w1.frozen? ⟨bc, 2, none⟩ = false := by rw [(hh bc nc1 2 (upd_same _ _ _)).2]; exact nC.free 2
          have HR1 := (show Hid _ from hr1)
          have HI2 := (show Hid _ from hI2)
          have HK2 : Hid (Kp B w _) := (HI1.out.2.1.trans (Kp.drew B wc)).trans hK2
          have hrc' : ¬ br = bc := fun e => hcr e.symm
          have ltc : bc < wc.heap.size := heap_lt nC.hd
          have ltr : br < wc.heap.size := heap_lt nR.hd
          clear hr1 hh hI2 hK2 nR nC hcl hre hce hcb hr' nC1
          rw [HCB.out]
          go_upto_region 3 with fail
          go_cut [] from 8 to 94 (fun wx => Hid (∃ nc2, Inv B wx (upd σ bc nc2) ∧ Kp B w wx ∧ nc2.es = nc.es ++ x :: nr.es ∧ nc2.cs = nc.cs ++ nr.cs ∧ nc2.keys = nc.keys))
          case first =>
            apply wp_region_one
            case h =>
              go_region_law (refine step_append_by rfl (.tmp 52) (.tmp 56) 65 65 rfl (.slice (some ⟨gc, 0, none⟩) lc capc) (.slice (some ⟨gr, 0, none⟩) m capr) (by simp [go_sem]) (by simp [go_sem]) HR1.out ?_)
              all_goals exact ⟨rfl, rfl⟩
            case k =>
              go_wp2_with fail
              go_meet
              obtain ⟨h1, h2, h3, h4, h5⟩ := HI1.out
              exact ⟨_, HI2.out, HK2.out, h3, by show nc1.cs ++ nr.cs = _; rw [h4], h5⟩
          case rest =>
            clear HR1 HI2 HK2 s2 s5 s6 d2 q2 ltc ltr HI1 hBc
            obtain ⟨nc2, h1, h2, h3, h4, h5⟩ := hcut.out
            clear hcut
            have nR := h1.node br nr (by rw [upd_other _ _ _ _ (fun e => hcr e.symm)]; exact HS.out.2.2)
            have nC := h1.node bc nc2 (upd_same _ _ _)
            have r3 := nR.cells.2.2.2
            have c3 := nC.cells.2.2.2
            have f3 := nC.free 3
            obtain ⟨ki, hki⟩ : ∃ ki, ki = nc.keys := ⟨_, rfl⟩
            obtain ⟨kr, hkr⟩ : ∃ kr, kr = nr.keys := ⟨_, rfl⟩
            rw [h5, ← hki] at c3
            rw [← hkr] at r3
            rw [← hki] at hk1 hk2
            rw [← hkr] at hk3 hk4
            obtain ⟨hI3, hK3⟩ := h1.setKeys (upd_same _ _ _) (ki + (1 + kr))
            rw [upd_upd] at hI3
            have HF : Hid (Inv B _ (upd σ bc { nc2 with keys := ki + (1 + kr) }) ∧ Kp B w _) := ⟨hI3.drew, (h2.trans hK3).trans (Kp.drew B _)⟩
            have hw1 : IntKind.i64.wrap (1 + kr) = 1 + kr := IntWalk.i64_in _ (by omega)
            have hw2 : IntKind.i64.wrap (ki + (1 + kr)) = ki + (1 + kr) := IntWalk.i64_in _ (by omega)
            have HX : Hid (nc2.es = nc.es ++ x :: nr.es ∧ nc2.cs = nc.cs ++ nr.cs ∧ ki = nc.keys ∧ kr = nr.keys) := ⟨h3, h4, hki, hkr⟩
            have hrc' : ¬ br = bc := fun e => hcr e.symm
            clear hI3 hK3 h1 h2 h3 h4 h5 hki hkr nR nC
            go_upto_region 4 with fail
            apply wp_region_one
            case h =>
              go_region_law (fail)
              all_goals exact ⟨rfl, rfl⟩
            case k =>
              go_wp2_with fail
              go_meet
              refine ⟨_, HF.out.1, HF.out.2, HX.out.1, HX.out.2.1, ?_⟩
              rw [mk2, HCB.out, ← HX.out.2.2.1, ← HX.out.2.2.2]; rfl
      case rest =>
        clear nC1 HI1 hBc
        obtain ⟨nc2, h1, h2, h3, h4, h5⟩ := hcut.out
        clear hcut
        have hp2 : upd σ bc nc2 bp = some np := by rw [upd_other _ _ _ _ hpc]; exact HS.out.1
        have HX : Hid (Inv B wc (upd σ bc nc2) ∧ Kp B w wc ∧ nc2.es = nc.es ++ x :: nr.es ∧ nc2.cs = nc.cs ++ nr.cs ∧ nc2.keys = mk2 nc nr ∧ upd σ bc nc2 bp = some np) := ⟨h1, h2, h3, h4, h5, hp2⟩
        have nP := h1.node bp np hp2
        have f1 := nP.free 1
        obtain ⟨ge, le, cape, HVE, hle0, hle1, p1, -, -⟩ := nP.rowE (by rw [HP.out.2.1]; simp; omega)
        have hie : i < le := by rw [HVE.out.2, HP.out.2.1]; simp; have := HP.out.2.2.2; omega
        have hcall := sdelE_st h1 hp2 (Nat.le_trans hB h2.size) HVE.out i hie
        have HC := (show Hid _ from hcall)
        clear h1 h2 h3 h4 h5 hp2 nP hcall
        go_wp2_with fail
        refine Calls.mono HC.out ?_
        rintro e wf ⟨rfl, hput⟩
        have z := hput.2.2 bp np 1 HX.out.2.2.2.2.2
        have y1 : wf.cell? ⟨bp, 1, none⟩ = some (.slice (some ⟨ge, 0, none⟩) le cape) := by rw [z.1]; exact p1
        have y2 : wf.frozen? ⟨bp, 1, none⟩ = false := by rw [z.2]; exact f1
        have HPUT := (show Hid _ from hput)
        clear z hput HC
        go_upto_region 6 with fail
        obtain ⟨W6, hW6⟩ : ∃ W6, W6 = wf.setCell ⟨bp, 1, none⟩ (.slice (some ⟨ge, 0, none⟩) (le - 1) cape) := ⟨_, rfl⟩
        rw [← hW6]
        have hI6 : Inv B W6 (upd (upd σ bc nc2) bp { np with ve := .slice (some ⟨ge, 0, none⟩) (le - 1) cape, es := np.es.take i ++ np.es.drop (i + 1) }) := by rw [hW6]; exact HPUT.out.1
        have hK6 : Kp B w W6 := by rw [hW6]; exact HX.out.2.1.trans HPUT.out.2.1
        clear hW6 y1 y2 HPUT p1 f1
        have nP := hI6.node bp _ (upd_same _ _ _)
        have f2 := nP.free 2
        obtain ⟨gk, lk, capk, HVK, hlk0, hlk1, p2, -, -⟩ := nP.rowC (by show 0 < np.cs.length; rw [HP.out.1]; simp; omega)
        have hik : i + 1 < lk := by rw [HVK.out.2]; show i + 1 < np.cs.length; rw [HP.out.1]; simp; have := HP.out.2.2.1; omega
        have hcall := sdelC_st hI6 (upd_same _ _ _) (Nat.le_trans hB hK6.size) HVK.out (i + 1) hik (by omega)
        have hcast : (((i + 1 : Nat) : Int)) = (i : Int) + 1 := by omega
        rw [hcast, show (i : Int) + 1 + 1 = (i : Int) + 2 by omega] at hcall
        have HC := (show Hid _ from hcall)
        have HI6 := (show Hid (Inv B W6 _ ∧ Kp B w W6) from ⟨hI6, hK6⟩)
        clear hcall hI6 hK6 nP hcast
        go_wp2_with fail
        refine Calls.mono HC.out ?_
        rintro e wg ⟨rfl, hput⟩
        have z := hput.2.2 bp _ 2 (upd_same _ _ _)
        have y1 : wg.cell? ⟨bp, 2, none⟩ = some (.slice (some ⟨gk, 0, none⟩) lk capk) := by rw [z.1]; exact p2
        have y2 : wg.frozen? ⟨bp, 2, none⟩ = false := by rw [z.2]; exact f2
        have HPUT := (show Hid _ from hput)
        clear z hput HC
        go_wp2_with fail
        go_end0
        obtain ⟨hp1, hp2, -⟩ := HPUT.out
        rw [upd_upd] at hp1
        refine ⟨rfl, nc2, _, hp1, HI6.out.2.trans hp2, HX.out.2.2.1, HX.out.2.2.2.1, HX.out.2.2.2.2.1, ?_, ?_, rfl⟩
        · show np.es.take i ++ np.es.drop (i + 1) = e1 ++ e2
          rw [HP.out.2.1, ← HP.out.2.2.2]; simp
        · show np.cs.take (i + 1) ++ np.cs.drop (i + 1 + 1) = c1 ++ bc :: c2
          rw [HP.out.1, ← HP.out.2.2.1]; exact erase_second _ _ _ _
end Go.Proofs.Qxb6613550a
