/-
  Map.fill, the child takes an entry from the sibling behind it.
-/
import Derived.Test.Qxb6613550aThree
import Derived.Deep.RegionHeldLaw
import Derived.Deep.CutRange
namespace Go.Proofs.Qxb6613550a
open Go.RowKit
set_option linter.unusedVariables false

theorem appE_st {B : Nat} {W : World} {σ : Sto} (hI : Inv B W σ) (hB : B ≤ W.heap.size) {bc : Nat} {nc : ND} (hc : σ bc = some nc) (x : Ent) (hsum : nc.es.length ≤ 90) :
    ∃ g cap w1, (Builtin.append_ #[61, 61] 61 #[nc.ve, .slice (some ⟨W.heap.size, 0, none⟩) 1 1]).run Try.prog (W.alloc (.cells #[.int .u64 x.k, .int .u64 x.c, .int .u64 x.s, .nilIface] 64)) = .ok (.slice (some ⟨g, 0, none⟩) (nc.es.length + 1) cap) w1 ∧
      PutE B (W.alloc (.cells #[.int .u64 x.k, .int .u64 x.c, .int .u64 x.s, .nilIface] 64)) σ bc nc (nc.es ++ [x]) (.slice (some ⟨g, 0, none⟩) (nc.es.length + 1) cap) w1 := by
  obtain ⟨g, cap, w1, hr, hown, hgr, hg⟩ := appE hI hB hc x hsum
  refine ⟨g, cap, w1, hr, putE_of (hI.alloc _) hc (by simp; omega) hgr hown (by simp) rfl (by simp; omega) (fun q hq => ?_)⟩
  simp [Value.ownBlock] at hq
  rcases hg with h | h
  · exact .inl (by rw [h, hq])
  · exact .inr (by simp; omega)

/-- What moves with the entry: nothing (leaves), or the right sibling's first child. -/
def Rb (σ : Sto) (nc nr nc' nr' : ND) : Prop :=
  (nc.cs = [] ∧ nr.cs = [] ∧ nc'.cs = [] ∧ nr'.cs = [] ∧ nc'.keys = nc.keys ∧ nr'.keys = nr.keys) ∨
  ∃ rc m nm, nr.cs = m :: rc ∧ σ m = some nm ∧ nr'.cs = rc ∧ nc'.cs = nc.cs ++ [m] ∧ nc'.keys = nc.keys + (1 + nm.size) ∧ nr'.keys = nr.keys - (1 + nm.size)

/-- What is known of the children beforehand. -/
def RbIn (σ : Sto) (bc bp br : Nat) (nc nr : ND) : Prop :=
  (nc.cs = [] ∧ nr.cs = []) ∨
  ∃ rc m nm, nc.cs ≠ [] ∧ nc.cs.length ≤ 90 ∧ nr.cs = m :: rc ∧ rc ≠ [] ∧ σ m = some nm ∧ m ≠ bc ∧ m ≠ bp ∧ m ≠ br ∧ 0 ≤ nm.size ∧ nm.size ≤ 1000000 ∧ 0 ≤ nc.keys ∧ nc.keys ≤ 1000000 ∧ 0 ≤ nr.keys ∧ nr.keys ≤ 1000000

/-- The sibling before the child, if there is one, can spare none. -/
def NoLeft (σ : Sto) (np : ND) (i : Nat) : Prop := i = 0 ∨ ∃ j bl nl, i = j + 1 ∧ np.cs[j]? = some bl ∧ σ bl = some nl ∧ 0 < nl.es.length ∧ nl.es.length ≤ 15

set_option maxHeartbeats 6400000 in
set_option maxRecDepth 100000 in
theorem fill_right (B S bp bc br i : Nat) (np nc nr : ND) (x y : Ent) (ry : List Ent) (σ : Sto) (w : World) (h : Inv B w σ) (hB : B ≤ w.heap.size)
    (hp : σ bp = some np) (hc : σ bc = some nc) (hr : σ br = some nr) (D : Dif bc bp br)
    (hkc : np.cs[i]? = some bc) (hkr : np.cs[i + 1]? = some br) (hx : np.es[i]? = some x) (hyr : nr.es = y :: ry) (hr15 : 15 ≤ ry.length) (hc15 : nc.es.length ≤ 15) (hc0 : 0 < nc.es.length)
    (hep : w.cell? ⟨S, 2, none⟩ = some (.int .u64 0)) (hno : NoLeft σ np i) (hrb : RbIn σ bc bp br nc nr) :
    Calls Try.prog 30 #[.pointer (some ⟨S, 0, none⟩), .pointer (some ⟨bp, 0, none⟩), .int .i64 (i : Int)] w fun e w' => e = .returned (.int .i64 (i : Int)) ∧ ∃ nc' np' nr', Inv B w' (u3 σ bc bp br nc' np' nr') ∧ Kp B w w' ∧
      nc'.es = nc.es ++ [x] ∧ np'.es = np.es.set i y ∧ np'.cs = np.cs ∧ np'.keys = np.keys ∧ nr'.es = ry ∧ Rb σ nc nr nc' nr' := by
  have nP := h.node bp np hp
  have nC := h.node bc nc hc
  have nR := h.node br nr hr
  have hjk : i + 1 < np.cs.length := (List.getElem?_eq_some_iff.1 hkr).1
  have hje : i < np.es.length := (List.getElem?_eq_some_iff.1 hx).1
  obtain ⟨gk, lk, capk, HVK, hlk0, hlk1, k0, -, -⟩ := nP.rowC (by omega)
  obtain ⟨ge, le, cape, HVE, hle0, hle1, p1, -, -⟩ := nP.rowE (by omega)
  have kc : w.cell? ⟨gk, i, none⟩ = some (.pointer (some ⟨bc, 0, none⟩)) := by
    have := nP.kid HVK.out.1 (i := i) (by omega)
    rw [(List.getElem?_eq_some_iff.1 hkc).2] at this; exact this
  have kr : w.cell? ⟨gk, i + 1, none⟩ = some (.pointer (some ⟨br, 0, none⟩)) := by
    have := nP.kid HVK.out.1 (i := i + 1) (by omega)
    rw [(List.getElem?_eq_some_iff.1 hkr).2] at this; exact this
  obtain ⟨gc, lc, capc, HVC, hlc0, hlc1, c1, -, -⟩ := nC.rowE hc0
  have hlc15 : (lc : Int) ≤ 15 := by rw [HVC.out.2]; omega
  obtain ⟨gr, lr, capr, HVR, hlr0, hlr1, r1, -, -⟩ := nR.rowE (by rw [hyr]; simp)
  have hlr : 15 < (lr : Int) := by rw [HVR.out.2, hyr]; simp; omega
  have hiI : (i : Int) + 1 < lk := by rw [HVK.out.2]; omega
  have hiE : (i : Int) < le := by rw [HVE.out.2]; omega
  have hi100 : i < 100 := by omega
  have hownc : ∀ n, NodeAt B (w.drewN n) bc nc := fun n => (h.drewN n).node bc nc hc
  have hownr : ∀ n, NodeAt B (w.drewN n) br nr := fun n => (h.drewN n).node br nr hr
  have hepN : ∀ n, (w.drewN n).cell? ⟨S, 2, none⟩ = some (.int .u64 0) := fun _ => hep
  have kcN : ∀ n, (w.drewN n).cell? ⟨gk, i, none⟩ = some (.pointer (some ⟨bc, 0, none⟩)) := fun _ => kc
  have krN : ∀ n, (w.drewN n).cell? ⟨gk, i + 1, none⟩ = some (.pointer (some ⟨br, 0, none⟩)) := fun _ => kr
  have HP : Hid (np.cs[i]? = some bc ∧ np.cs[i + 1]? = some br ∧ np.es[i]? = some x ∧ nr.es = y :: ry) := ⟨hkc, hkr, hx, hyr⟩
  have HS : Hid (σ bp = some np ∧ σ bc = some nc ∧ σ br = some nr) := ⟨hp, hc, hr⟩
  have HRB : Hid (RbIn σ bc bp br nc nr) := hrb
  have HNO : Hid (NoLeft σ np i) := hno
  have HH : Hid (Inv B w σ) := h
  have HE : Hid (w.cell? ⟨S, 2, none⟩ = some (.int .u64 0)) := hep
  have hd1 : decide (15 < (lc : Int)) = false := by simp; omega
  clear hkc hkr hx hyr hp hc hr hrb h nP nC nR hr15 hjk hje hno
  go_enter Try.func30, Try.ntmps30
  go_upto_region 5 with fail
  go_cut [33] from 14 to 50 (fun b wx => b = .bool false ∧ wx = w)
  case first =>
    have hg := HNO.out
    rcases hg with h0 | ⟨j, bl, nl, h0, hkl, hl, hl0, hl15⟩
    · subst h0
      go_wp2_with fail
      go_meet
      exact ⟨rfl, rfl⟩
    · subst h0
      have nP := HH.out.node bp np HS.out.1
      have nL := HH.out.node bl nl hl
      have kl : w.cell? ⟨gk, j, none⟩ = some (.pointer (some ⟨bl, 0, none⟩)) := by
        have hlt := (List.getElem?_eq_some_iff.1 hkl).1
        have := nP.kid HVK.out.1 (i := j) (by omega)
        rw [(List.getElem?_eq_some_iff.1 hkl).2] at this; exact this
      obtain ⟨gl, ll, capl, HVL, hll0, hll1, l1, -, -⟩ := nL.rowE hl0
      have hll15 : (ll : Int) ≤ 15 := by rw [HVL.out.2]; omega
      have hd2 : decide (15 < (ll : Int)) = false := by simp; omega
      have hjw3 : (j : Int) + 1 - 1 = j := by omega
      have hjlk : (j : Int) < lk := by omega
      clear nP nL hkl hl hl0 hl15
      go_wp2_with fail
      go_meet
      exact ⟨rfl, rfl⟩
  case rest =>
    obtain ⟨hb, hwc⟩ := hcut
    subst hb
    subst wc
    clear HNO
    go_upto_region 18 with fail
    go_quiet (first | (go_at_call 23; with_reducible exact Calls.quiet_of (own_any B S bc nc ⟨gk, i, none⟩ _ (hownc _) (hepN _) (kcN _))) | (go_at_call 23; with_reducible exact Calls.quiet_of (own_any B S br nr ⟨gk, i + 1, none⟩ _ (hownr _) (hepN _) (krN _))))
    have HI : Hid (Inv B (w.drewN nq) (u3 σ bc bp br nc np nr) ∧ Kp B w (w.drewN nq)) := ⟨by rw [u3_self HS.out.2.1 HS.out.1 HS.out.2.2]; exact HH.out.drewN nq, Kp.drewN B w nq⟩
    have hBW : B ≤ (w.drewN nq).heap.size := hB
    clear k0 kc kr hepN kcN krN hownc hownr hep HE HH hiI hd1 p1 c1 r1
    generalize hW0 : w.drewN nq = W at HI hBW ⊢
    clear hW0
    go_upto_region 19 with fail
    go_cut [] from 166 to 220 (fun wx => Hid (∃ nc1, Inv B wx (u3 σ bc bp br nc1 np nr) ∧ Kp B w wx ∧ nc1.es = nc.es ++ [x] ∧ nc1.cs = nc.cs ∧ nc1.keys = nc.keys))
    case first =>
      have nP := HI.out.1.node bp np (u3_b D)
      have nC := HI.out.1.node bc nc (u3_a D)
      have p1 : W.cell? ⟨bp, 1, none⟩ = some (.slice (some ⟨ge, 0, none⟩) le cape) := by rw [nP.cells.2.1, HVE.out.1]
      have c1 : W.cell? ⟨bc, 1, none⟩ = some (.slice (some ⟨gc, 0, none⟩) lc capc) := by rw [nC.cells.2.1, HVC.out.1]
      obtain ⟨hi, hix⟩ := List.getElem?_eq_some_iff.1 HP.out.2.2.1
      obtain ⟨x0, x1, x2, x3⟩ := nP.entry HVE.out.1 hi
      rw [hix] at x0 x1 x2
      obtain ⟨g1, cap1, w1, hr1, hput⟩ := appE_st HI.out.1.drew (by simpa using hBW) (u3_a D) x (by omega)
      rw [HVC.out.1] at hr1
      rw [← HVC.out.2] at hr1 hput
      have z := hput.2.2 bc nc 1 (u3_a D)
      rw [alloc_cell _ c1, alloc_frozen _ (heap_lt nC.hd) (nC.free 1)] at z
      have s5 := z.1
      have s6 := z.2
      have ltp : bp < W.heap.size := heap_lt nP.hd
      have ltc : bc < W.heap.size := heap_lt nC.hd
      have HR1 := (show Hid _ from hr1)
      have HPUT := (show Hid _ from hput)
      clear hr1 hput z nP nC hix hi
      apply wp_region_one
      case h =>
        go_region_law (refine step_append_by rfl (.tmp 209) (.tmp 217) 61 61 rfl (.slice (some ⟨gc, 0, none⟩) lc capc) (.slice (some ⟨W.drew.heap.size, 0, none⟩) 1 1) (by simp [go_sem]) (by simp [go_sem]) HR1.out ?_)
        all_goals exact ⟨rfl, rfl⟩
      case k =>
        go_wp2_with fail
        go_meet
        obtain ⟨hp1, hp2, -⟩ := HPUT.out
        rw [u3_ua D] at hp1
        exact ⟨_, hp1, ((HI.out.2.trans (Kp.drew B _)).trans (Kp.alloc (by exact hBW) _)).trans hp2, rfl, rfl, rfl⟩
    case rest =>
      obtain ⟨nc1, hI, hK, hes1, hcs1, hks1⟩ := hcut.out
      have T : Hid (Inv B wc (u3 σ bc bp br nc1 np nr) ∧ Kp B w wc ∧ nc1.es = nc.es ++ [x] ∧ nc1.cs = nc.cs ∧ nc1.keys = nc.keys) := ⟨hI, hK, hes1, hcs1, hks1⟩
      have hBc : B ≤ wc.heap.size := Nat.le_trans hB hK.size
      clear hcut hI hK hes1 hcs1 hks1 HI hBW
      go_upto_region 20 with fail
      go_cut [] from 166 to 232 (fun wx => Hid (∃ np1, Inv B wx (u3 σ bc bp br nc1 np1 nr) ∧ Kp B w wx ∧ np1.es = np.es.set i y ∧ np1.cs = np.cs ∧ np1.keys = np.keys))
      case first =>
        have nP := T.out.1.node bp np (u3_b D)
        have nR := T.out.1.node br nr u3_c
        have p1 : wc.cell? ⟨bp, 1, none⟩ = some (.slice (some ⟨ge, 0, none⟩) le cape) := by rw [nP.cells.2.1, HVE.out.1]
        obtain ⟨hi, hix⟩ := List.getElem?_eq_some_iff.1 HP.out.2.2.1
        obtain ⟨x0, x1, x2, x3⟩ := nP.entry HVE.out.1 hi
        have g0 := nP.freeE HVE.out.1 (i * 4)
        have g1 := nP.freeE HVE.out.1 (i * 4 + 1)
        have g2 := nP.freeE HVE.out.1 (i * 4 + 2)
        have g3 := nP.freeE HVE.out.1 (i * 4 + 3)
        rw [hix] at x0 x1 x2
        have r1 : wc.cell? ⟨br, 1, none⟩ = some (.slice (some ⟨gr, 0, none⟩) lr capr) := by rw [nR.cells.2.1, HVR.out.1]
        have hyq : ∃ hq : 0 < nr.es.length, nr.es[0] = y := ⟨by have := HVR.out.2; omega, by have := HP.out; simp [this.2.2.2]⟩
        obtain ⟨hq, hqy⟩ := hyq
        obtain ⟨y0, y1, y2, y3⟩ := nR.entry HVR.out.1 hq
        rw [hqy] at y0 y1 y2
        simp only [Nat.zero_mul, Nat.zero_add] at y0 y1 y2 y3
        have hlrI : (0 : Int) < lr := by omega
        obtain ⟨hI, hK⟩ := T.out.1.setEntry (u3_b D) HVE.out.1 hi y
        rw [u3_ub D] at hI
        have HF := (show Hid (_ ∧ _) from ⟨hI.drew, (T.out.2.1.trans hK).trans (Kp.drew B _)⟩)
        clear nP nR hI hK hq hqy hi hix
        apply wp_region_one
        case h =>
          go_region_law (fail)
          all_goals exact ⟨rfl, rfl⟩
        case k =>
          go_wp2_with fail
          go_meet
          exact ⟨_, HF.out.1, HF.out.2, rfl, rfl, rfl⟩
      case rest =>
        obtain ⟨np1, hI, hK, hes2, hcs2, hks2⟩ := hcut.out
        have T1 : Hid (nc1.es = nc.es ++ [x] ∧ nc1.cs = nc.cs ∧ nc1.keys = nc.keys ∧ np1.es = np.es.set i y ∧ np1.cs = np.cs ∧ np1.keys = np.keys) := ⟨T.out.2.2.1, T.out.2.2.2.1, T.out.2.2.2.2, hes2, hcs2, hks2⟩
        have T2 : Hid (Inv B wc (u3 σ bc bp br nc1 np1 nr) ∧ Kp B w wc) := ⟨hI, hK⟩
        clear hBc
        have hBc : B ≤ wc.heap.size := Nat.le_trans hB hK.size
        clear hcut hI hK hes2 hcs2 hks2 T
        go_upto_region 21 with fail
        go_cut [] from 166 to 240 (fun wx => Hid (∃ nr1, Inv B wx (u3 σ bc bp br nc1 np1 nr1) ∧ Kp B w wx ∧ nr1.es = ry ∧ nr1.cs = nr.cs ∧ nr1.keys = nr.keys))
        case first =>
          have nR := T2.out.1.node br nr u3_c
          have f1 := nR.free 1
          have r1 : wc.cell? ⟨br, 1, none⟩ = some (.slice (some ⟨gr, 0, none⟩) lr capr) := by rw [nR.cells.2.1, HVR.out.1]
          have hcall := sdelE_st T2.out.1 u3_c hBc HVR.out 0 (by omega)
          rw [show ((0 : Nat) : Int) = 0 from rfl, show (0 : Int) + 1 = 1 from rfl] at hcall
          have HC := (show Hid _ from hcall)
          clear hcall nR
          go_wp2_with fail
          refine Calls.mono HC.out ?_
          rintro e wf ⟨rfl, hput⟩
          have z := hput.2.2 br nr 1 u3_c
          rw [f1, r1] at z
          have y1 := z.1
          have y2 := z.2
          have HPUT := (show Hid _ from hput)
          clear z hput HC r1 f1
          go_wp2_with fail
          go_meet
          obtain ⟨hp1, hp2, -⟩ := HPUT.out
          rw [u3_uc] at hp1
          refine ⟨_, hp1, T2.out.2.trans hp2, ?_, rfl, rfl⟩
          show nr.es.take 0 ++ nr.es.drop (0 + 1) = ry
          rw [HP.out.2.2.2]; simp
        case rest =>
          obtain ⟨nr1, hI, hK, hes3, hcs3, hks3⟩ := hcut.out
          have T3 : Hid (Inv B wc (u3 σ bc bp br nc1 np1 nr1) ∧ Kp B w wc ∧ nr1.es = ry ∧ nr1.cs = nr.cs ∧ nr1.keys = nr.keys) := ⟨hI, hK, hes3, hcs3, hks3⟩
          clear hBc
          have hBc : B ≤ wc.heap.size := Nat.le_trans hB hK.size
          clear hcut hI hK hes3 hcs3 hks3 T2
          go_upto_region 22 with fail
          go_cut [243] from 166 to 243 (fun b wx => b = .bool (!nc.cs.isEmpty) ∧ wx = wc)
          case first =>
            have he : nc1.cs.isEmpty = nc.cs.isEmpty := by rw [T1.out.2.1]
            have HE := (show Hid _ from he)
            have nC1 := T3.out.1.node bc nc1 (u3_a D)
            clear he
            go_wp2_with fail
            refine (leaf_any B bc nc1 _ nC1).mono ?_
            rintro e w' ⟨rfl, hw⟩
            subst w'
            rw [HE.out]
            go_wp2_with fail
            go_meet
            exact ⟨rfl, rfl⟩
          case rest =>
            obtain ⟨hb47, hwc⟩ := hcut
            subst hwc
            subst hb47
            rcases HRB.out with ⟨hce, hle⟩ | ⟨rcs, m, nm, hce, hc90, hle, hrcl, hm, hmc, hmp, hml, hs0, hs1, hkc0, hkc1, hkr0, hkr1⟩
            · have HC : Hid (nc.cs = [] ∧ nr.cs = []) := ⟨hce, hle⟩
              have hcb : nc.cs.isEmpty = true := by rw [hce]; rfl
              have HCB := (show Hid (nc.cs.isEmpty = true) from hcb)
              clear hce hle hcb
              rw [HCB.out]
              go_wp2_with fail
              go_ret
              exact ⟨rfl, nc1, np1, nr1, T3.out.1, T3.out.2.1, T1.out.1, T1.out.2.2.2.1, T1.out.2.2.2.2.1, T1.out.2.2.2.2.2, T3.out.2.2.1, .inl ⟨HC.out.1, HC.out.2, by rw [T1.out.2.1, HC.out.1], by rw [T3.out.2.2.2.1, HC.out.2], T1.out.2.2.1, T3.out.2.2.2.2⟩⟩
            · have hcb : nc.cs.isEmpty = false := by cases hq : nc.cs with | nil => exact absurd hq hce | cons _ _ => rfl
              have HCB := (show Hid (nc.cs.isEmpty = false) from hcb)
              have HM : Hid (nr.cs = m :: rcs ∧ rcs ≠ [] ∧ σ m = some nm ∧ nc.cs ≠ [] ∧ nc.cs.length ≤ 90) := ⟨hle, hrcl, hm, hce, hc90⟩
              have hmm : ∀ a b c, u3 σ bc bp br a b c m = some nm := fun a b c => by rw [u3_other hmc hmp hml]; exact hm
              have HMM := (show Hid _ from hmm)
              obtain ⟨z, hz⟩ : ∃ z, z = nm.size := ⟨_, rfl⟩
              obtain ⟨kc, hkc⟩ : ∃ kc, kc = nc.keys := ⟨_, rfl⟩
              obtain ⟨kl, hkl⟩ : ∃ kl, kl = nr.keys := ⟨_, rfl⟩
              rw [← hz] at hs0 hs1
              rw [← hkc] at hkc0 hkc1
              rw [← hkl] at hkr0 hkr1
              have HZ : Hid (z = nm.size ∧ kc = nc.keys ∧ kl = nr.keys) := ⟨hz, hkc, hkl⟩
              clear hcb hle hrcl hm hce hc90 hmm hz hkc hkl
              rw [HCB.out]
              -- moved := right.children[0]
              have nR := T3.out.1.node br nr1 u3_c
              obtain ⟨gm, lm, capm, HVM, hlm0, hlm1, m2, -, -⟩ := nR.rowC (by rw [T3.out.2.2.2.1, HM.out.1]; simp)
              have hlm2 : 1 < lm := by
                rw [HVM.out.2, T3.out.2.2.2.1, HM.out.1]
                have := List.length_pos_iff.2 HM.out.2.1
                simp; omega
              have hlmI : (0 : Int) < lm := by omega
              have mk : wc.cell? ⟨gm, 0, none⟩ = some (.pointer (some ⟨m, 0, none⟩)) := by
                have hlt : 0 < nr1.cs.length := by have := HVM.out.2; omega
                have := nR.kid HVM.out.1 (i := 0) hlt
                rw [this]
                have h2 : nr1.cs[0] = m := by
                  have h3 : nr1.cs = m :: rcs := by rw [T3.out.2.2.2.1, HM.out.1]
                  simp [h3]
                rw [h2]
              have nC := T3.out.1.node bc nc1 (u3_a D)
              obtain ⟨gn, ln, capn, HVN, hln0, hln1, n2, -, hgn⟩ := nC.rowC (by rw [T1.out.2.1]; exact List.length_pos_iff.2 HM.out.2.2.2.1)
              have hln90 : ln ≤ 90 := by rw [HVN.out.2, T1.out.2.1]; exact HM.out.2.2.2.2
              obtain ⟨g1, cap1, w1, hr1, hh, hI2, hK2⟩ := appC T3.out.1 hBc (u3_a D) m (by rw [← HVN.out.2]; omega)
              rw [HVN.out.1] at hr1
              rw [← HVN.out.2] at hr1 hI2 hK2
              rw [u3_ua D] at hI2
              have z2 := hh bc nc1 2 (u3_a D)
              rw [n2, nC.free 2] at z2
              have s5 := z2.1
              have s6 := z2.2
              have HR1 := (show Hid _ from hr1)
              have HI2 := (show Hid (_ ∧ _) from ⟨hI2, T3.out.2.1.trans hK2⟩)
              have ltc : bc < wc.heap.size := heap_lt nC.hd
              clear nC nR hr1 hh hI2 hK2 z2
              go_upto_region 24 with fail
              go_cut [] from 166 to 259 (fun wx => Hid (∃ nc2, Inv B wx (u3 σ bc bp br nc2 np1 nr1) ∧ Kp B w wx ∧ nc2.es = nc1.es ∧ nc2.cs = nc.cs ++ [m] ∧ nc2.keys = nc.keys))
              case first =>
                go_wp2_with (at_builtin; refine wpList_append_by _ rfl (.tmp 254) (.tmp 256) 65 65 rfl _ _ rfl rfl HR1.out ?_)
                go_meet
                exact ⟨_, HI2.out.1, HI2.out.2, rfl, by show nc1.cs ++ [m] = _; rw [T1.out.2.1], by show nc1.keys = _; rw [T1.out.2.2.1]⟩
              case rest =>
                obtain ⟨nc2, hI, hK, hes4, hcs4, hks4⟩ := hcut.out
                have T5 : Hid (Inv B wc (u3 σ bc bp br nc2 np1 nr1) ∧ Kp B w wc ∧ nc2.es = nc1.es ∧ nc2.cs = nc.cs ++ [m] ∧ nc2.keys = nc.keys) := ⟨hI, hK, hes4, hcs4, hks4⟩
                clear hBc
                have hBc : B ≤ wc.heap.size := Nat.le_trans hB hK.size
                have HT3 : Hid (nr1.es = ry ∧ nr1.cs = nr.cs ∧ nr1.keys = nr.keys) := T3.out.2.2
                clear hcut hI hK hes4 hcs4 hks4 T3 m2 mk n2 HR1 HI2 hgn s5 s6
                have nR := T5.out.1.node br nr1 u3_c
                have f2 := nR.free 2
                have m2 : wc.cell? ⟨br, 2, none⟩ = some (.slice (some ⟨gm, 0, none⟩) lm capm) := by rw [nR.cells.2.2.1, HVM.out.1]
                have hcall := sdelC_st T5.out.1 u3_c hBc HVM.out 0 (by omega) hlm2
                rw [show ((0 : Nat) : Int) = 0 from rfl, show (0 : Int) + 1 = 1 from rfl] at hcall
                have HC := (show Hid _ from hcall)
                clear hcall nR
                go_upto_region 25 with fail
                go_cut [] from 166 to 267 (fun wx => Hid (∃ nr2, Inv B wx (u3 σ bc bp br nc2 np1 nr2) ∧ Kp B w wx ∧ nr2.es = nr1.es ∧ nr2.cs = rcs ∧ nr2.keys = nr.keys))
                case first =>
                  go_wp2_with fail
                  refine Calls.mono HC.out ?_
                  rintro e wf ⟨rfl, hput⟩
                  have z := hput.2.2 br nr1 2 u3_c
                  rw [f2, m2] at z
                  have y1 := z.1
                  have y2 := z.2
                  have HPUT := (show Hid _ from hput)
                  clear z hput HC m2 f2
                  go_wp2_with fail
                  go_meet
                  obtain ⟨hp1, hp2, -⟩ := HPUT.out
                  rw [u3_uc] at hp1
                  refine ⟨_, hp1, T5.out.2.1.trans hp2, rfl, ?_, HT3.out.2.2⟩
                  show nr1.cs.take 0 ++ nr1.cs.drop (0 + 1) = rcs
                  rw [HT3.out.2.1, HM.out.1]; simp
                case rest =>
                  obtain ⟨nr2, hI, hK, hes5, hcs5, hks5⟩ := hcut.out
                  have T6 : Hid (Inv B wc (u3 σ bc bp br nc2 np1 nr2) ∧ Kp B w wc ∧ nr2.es = nr1.es ∧ nr2.cs = rcs ∧ nr2.keys = nr.keys) := ⟨hI, hK, hes5, hcs5, hks5⟩
                  clear hcut hI hK hes5 hcs5 hks5 m2 f2 HC
                  have nC := T6.out.1.node bc nc2 (u3_a D)
                  have f3 := nC.free 3
                  have c3 : wc.cell? ⟨bc, 3, none⟩ = some (.int .i64 kc) := by rw [nC.cells.2.2.2, T5.out.2.2.2.2, HZ.out.2.1]
                  have nM := T6.out.1.node m nm (HMM.out _ _ _)
                  have nM1 : NodeAt B wc.drew m nm := nM.keep rfl (fun _ _ => rfl) (fun _ _ => rfl)
                  have hw1 : IntKind.i64.wrap (1 + z) = 1 + z := IntWalk.i64_in _ (by omega)
                  have hw2 : IntKind.i64.wrap (kc + (1 + z)) = kc + (1 + z) := IntWalk.i64_in _ (by omega)
                  obtain ⟨hI, hK⟩ := T6.out.1.setKeys (u3_a D) (kc + (1 + z))
                  rw [u3_ua D] at hI
                  have HF := (show Hid (_ ∧ _) from ⟨hI.drew, (T6.out.2.1.trans hK).trans (Kp.drew B _)⟩)
                  clear nC nM hI hK
                  go_upto_region 26 with fail
                  go_cut [] from 166 to 277 (fun wx => Hid (∃ nc3, Inv B wx (u3 σ bc bp br nc3 np1 nr2) ∧ Kp B w wx ∧ nc3.es = nc2.es ∧ nc3.cs = nc2.cs ∧ nc3.keys = kc + (1 + z)))
                  case first =>
                    apply wp_region_one
                    case h =>
                      go_region_with (go_at_call 33; refine (size_any B m nm wc.drew nM1).mono ?_; rintro e w' ⟨rfl, hw⟩; subst w'; rw [← HZ.out.1])
                      all_goals exact ⟨rfl, rfl⟩
                    case k =>
                      go_wp2_with fail
                      go_meet
                      exact ⟨_, HF.out.1, HF.out.2, rfl, rfl, rfl⟩
                  case rest =>
                    obtain ⟨nc3, hI, hK, hes6, hcs6, hks6⟩ := hcut.out
                    have T7 : Hid (Inv B wc (u3 σ bc bp br nc3 np1 nr2) ∧ Kp B w wc ∧ nc3.es = nc2.es ∧ nc3.cs = nc2.cs ∧ nc3.keys = kc + (1 + z)) := ⟨hI, hK, hes6, hcs6, hks6⟩
                    clear hcut hI hK hes6 hcs6 hks6 nM1 c3 f3 hw2 HF
                    have nR := T7.out.1.node br nr2 u3_c
                    have f3 := nR.free 3
                    have l3 : wc.cell? ⟨br, 3, none⟩ = some (.int .i64 kl) := by rw [nR.cells.2.2.2, T6.out.2.2.2.2, HZ.out.2.2]
                    have nM := T7.out.1.node m nm (HMM.out _ _ _)
                    have nM1 : NodeAt B wc.drew m nm := nM.keep rfl (fun _ _ => rfl) (fun _ _ => rfl)
                    have hw2 : IntKind.i64.wrap (kl - (1 + z)) = kl - (1 + z) := IntWalk.i64_in _ (by omega)
                    obtain ⟨hI, hK⟩ := T7.out.1.setKeys u3_c (kl - (1 + z))
                    rw [u3_uc] at hI
                    have HF := (show Hid (_ ∧ _) from ⟨hI.drew, (T7.out.2.1.trans hK).trans (Kp.drew B _)⟩)
                    clear nR nM hI hK
                    go_upto_region 27 with fail
                    apply wp_region_one
                    case h =>
                      go_region_with (go_at_call 33; refine (size_any B m nm wc.drew nM1).mono ?_; rintro e w' ⟨rfl, hw⟩; subst w'; rw [← HZ.out.1])
                      all_goals exact ⟨rfl, rfl⟩
                    case k =>
                      go_wp2_with fail
                      go_ret
                      refine ⟨rfl, nc3, np1, _, HF.out.1, HF.out.2, by rw [T7.out.2.2.1, T5.out.2.2.1, T1.out.1], T1.out.2.2.2.1, T1.out.2.2.2.2.1, T1.out.2.2.2.2.2, by show nr2.es = _; rw [T6.out.2.2.1, HT3.out.1], .inr ⟨rcs, m, nm, HM.out.1, HM.out.2.2.1, T6.out.2.2.2.1, by rw [T7.out.2.2.2.1, T5.out.2.2.2.1], ?_, ?_⟩⟩
                      · rw [T7.out.2.2.2.2, HZ.out.2.1, HZ.out.1]
                      · show kl - (1 + z) = _
                        rw [HZ.out.2.2, HZ.out.1]
end Go.Proofs.Qxb6613550a
