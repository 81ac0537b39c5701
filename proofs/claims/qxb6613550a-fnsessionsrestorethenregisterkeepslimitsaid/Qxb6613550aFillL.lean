/-
  Map.fill, the child takes an entry from the sibling before it.
-/
import Derived.Test.Qxb6613550aThree
import Derived.Deep.RegionHeldLaw
import Derived.Deep.CutRange
namespace Go.Proofs.Qxb6613550a
open Go.RowKit
set_option linter.unusedVariables false

/-- What moves with the entry: nothing (leaves), or the left sibling's last child. -/
def Lb (σ : Sto) (nc nl nc' nl' : ND) : Prop :=
  (nc.cs = [] ∧ nl.cs = [] ∧ nc'.cs = [] ∧ nl'.cs = [] ∧ nc'.keys = nc.keys ∧ nl'.keys = nl.keys) ∨
  ∃ lc m nm, nl.cs = lc ++ [m] ∧ σ m = some nm ∧ nl'.cs = lc ∧ nc'.cs = m :: nc.cs ∧ nc'.keys = nc.keys + (1 + nm.size) ∧ nl'.keys = nl.keys - (1 + nm.size)

/-- What is known of the children beforehand. -/
def LbIn (σ : Sto) (bc bp bl : Nat) (q : Nat) (nc nl : ND) : Prop :=
  (nc.cs = [] ∧ nl.cs = []) ∨
  ∃ lc m nm, nc.cs ≠ [] ∧ nc.cs.length ≤ 90 ∧ nl.cs = lc ++ [m] ∧ lc.length = q + 1 ∧ σ m = some nm ∧ m ≠ bc ∧ m ≠ bp ∧ m ≠ bl ∧ 0 ≤ nm.size ∧ nm.size ≤ 1000000 ∧ 0 ≤ nc.keys ∧ nc.keys ≤ 1000000 ∧ 0 ≤ nl.keys ∧ nl.keys ≤ 1000000

set_option maxHeartbeats 6400000 in
set_option maxRecDepth 100000 in
theorem fill_left (B S bp bc bl j : Nat) (np nc nl : ND) (x y : Ent) (ly : List Ent) (σ : Sto) (w : World) (h : Inv B w σ) (hB : B ≤ w.heap.size)
    (hp : σ bp = some np) (hc : σ bc = some nc) (hl : σ bl = some nl) (D : Dif bc bp bl)
    (hkc : np.cs[j + 1]? = some bc) (hkl : np.cs[j]? = some bl) (hx : np.es[j]? = some x) (hyl : nl.es = ly ++ [y]) (hl15 : 15 ≤ ly.length) (hc15 : nc.es.length ≤ 15) (hc0 : 0 < nc.es.length)
    (hep : w.cell? ⟨S, 2, none⟩ = some (.int .u64 0)) (hlb : LbIn σ bc bp bl ly.length nc nl) :
    Calls Try.prog 30 #[.pointer (some ⟨S, 0, none⟩), .pointer (some ⟨bp, 0, none⟩), .int .i64 ((j : Int) + 1)] w fun e w' => e = .returned (.int .i64 ((j : Int) + 1)) ∧ ∃ nc' np' nl', Inv B w' (u3 σ bc bp bl nc' np' nl') ∧ Kp B w w' ∧
      nc'.es = x :: nc.es ∧ np'.es = np.es.set j y ∧ np'.cs = np.cs ∧ np'.keys = np.keys ∧ nl'.es = ly ∧ Lb σ nc nl nc' nl' := by
  have nP := h.node bp np hp
  have nC := h.node bc nc hc
  have nL := h.node bl nl hl
  have hjk : j + 1 < np.cs.length := (List.getElem?_eq_some_iff.1 hkc).1
  have hje : j < np.es.length := (List.getElem?_eq_some_iff.1 hx).1
  obtain ⟨gk, lk, capk, HVK, hlk0, hlk1, k0, -, -⟩ := nP.rowC (by omega)
  have kc : w.cell? ⟨gk, j + 1, none⟩ = some (.pointer (some ⟨bc, 0, none⟩)) := by
    have := nP.kid HVK.out.1 (i := j + 1) hjk
    rw [(List.getElem?_eq_some_iff.1 hkc).2] at this; exact this
  have kl : w.cell? ⟨gk, j, none⟩ = some (.pointer (some ⟨bl, 0, none⟩)) := by
    have := nP.kid HVK.out.1 (i := j) (by omega)
    rw [(List.getElem?_eq_some_iff.1 hkl).2] at this; exact this
  obtain ⟨gc, lc, capc, HVC, hlc0, hlc1, c1, -, -⟩ := nC.rowE hc0
  have hlc15 : (lc : Int) ≤ 15 := by rw [HVC.out.2]; omega
  obtain ⟨q, hq⟩ : ∃ q, q = ly.length := ⟨_, rfl⟩
  obtain ⟨gl, ll, capl, HVL, hll0, hll1, l1, -, -⟩ := nL.rowE (by rw [hyl]; simp)
  have hll : ll = q + 1 := by rw [HVL.out.2, hyl, hq]; simp
  subst hll
  have hq15 : 15 ≤ q := by omega
  have hq99 : q ≤ 99 := by omega
  have hjI : (j : Int) + 1 < lk := by rw [HVK.out.2]; omega
  have hj100 : j < 100 := by omega
  have hownc : ∀ n, NodeAt B (w.drewN n) bc nc := fun n => (h.drewN n).node bc nc hc
  have hownl : ∀ n, NodeAt B (w.drewN n) bl nl := fun n => (h.drewN n).node bl nl hl
  have hepN : ∀ n, (w.drewN n).cell? ⟨S, 2, none⟩ = some (.int .u64 0) := fun _ => hep
  have kcN : ∀ n, (w.drewN n).cell? ⟨gk, j + 1, none⟩ = some (.pointer (some ⟨bc, 0, none⟩)) := fun _ => kc
  have klN : ∀ n, (w.drewN n).cell? ⟨gk, j, none⟩ = some (.pointer (some ⟨bl, 0, none⟩)) := fun _ => kl
  have HP : Hid (np.cs[j + 1]? = some bc ∧ np.cs[j]? = some bl ∧ np.es[j]? = some x ∧ nl.es = ly ++ [y] ∧ q = ly.length) := ⟨hkc, hkl, hx, hyl, hq⟩
  have HS : Hid (σ bp = some np ∧ σ bc = some nc ∧ σ bl = some nl) := ⟨hp, hc, hl⟩
  have HLB : Hid (LbIn σ bc bp bl ly.length nc nl) := hlb
  have HH : Hid (Inv B w σ) := h
  have hd1 : decide (15 < (lc : Int)) = false := by simp; omega
  have hjw2 : IntKind.i64.wrap (j : Int) = j := IntWalk.i64_in _ (by omega)
  have hjw3 : (j : Int) + 1 - 1 = j := by omega
  clear hkc hkl hx hyl hp hc hl hlb h nP nC nL hq hl15 hjk hje
  go_enter Try.func30, Try.ntmps30
  go_wp2
  go_quiet (first | (go_at_call 23; with_reducible exact Calls.quiet_of (own_any B S bc nc ⟨gk, j + 1, none⟩ _ (hownc _) (hepN _) (kcN _))) | (go_at_call 23; with_reducible exact Calls.quiet_of (own_any B S bl nl ⟨gk, j, none⟩ _ (hownl _) (hepN _) (klN _))))
  have HI : Hid (Inv B (w.drewN nq) (u3 σ bc bp bl nc np nl) ∧ Kp B w (w.drewN nq)) := ⟨by rw [u3_self HS.out.2.1 HS.out.1 HS.out.2.2]; exact HH.out.drewN nq, Kp.drewN B w nq⟩
  have hBW : B ≤ (w.drewN nq).heap.size := hB
  have l1 : (w.drewN nq).cell? ⟨bl, 1, none⟩ = some (.slice (some ⟨gl, 0, none⟩) (q + 1) capl) := l1
  have c1 : (w.drewN nq).cell? ⟨bc, 1, none⟩ = some (.slice (some ⟨gc, 0, none⟩) lc capc) := c1
  generalize w.drewN nq = W at HI hBW l1 c1 ⊢
  rename w.cell? ⟨bl, 1, none⟩ = some (.slice (some ⟨gl, 0, none⟩) (q + 1) capl) => l1o
  rename w.cell? ⟨bc, 1, none⟩ = some (.slice (some ⟨gc, 0, none⟩) lc capc) => c1o
  clear k0 kc kl hepN kcN klN hownc hownl hep l1o c1o HH hjI hd1
  go_upto_region 8 with fail
  clear l1
  go_cut [] from 14 to 90 (fun wx => Hid (∃ nc1, Inv B wx (u3 σ bc bp bl nc1 np nl) ∧ Kp B w wx ∧ nc1.es = x :: nc.es ∧ nc1.cs = nc.cs ∧ nc1.keys = nc.keys))
  case first =>
    have nP := HI.out.1.node bp np (u3_b D)
    obtain ⟨ge, le, cape, HVE, hle0, hle1, p1, -, -⟩ := nP.rowE (by have := (List.getElem?_eq_some_iff.1 HP.out.2.2.1).1; omega)
    obtain ⟨hi, hix⟩ := List.getElem?_eq_some_iff.1 HP.out.2.2.1
    obtain ⟨x0, x1, x2, x3⟩ := nP.entry HVE.out.1 hi
    rw [hix] at x0 x1 x2
    have hje : (j : Int) < le := by rw [HVE.out.2]; omega
    have nC := HI.out.1.node bc nc (u3_a D)
    have f1 := alloc_frozen (.cells #[.int .u64 x.k, .int .u64 x.c, .int .u64 x.s, .nilIface] 64) (heap_lt nC.hd) (nC.free 1)
    have a1 := alloc_cell (.cells #[.int .u64 x.k, .int .u64 x.c, .int .u64 x.s, .nilIface] 64) c1
    have hob : nc.ve.ownBlock = some gc := by rw [HVC.out.1]; rfl
    have hgc : W.heap.size ≠ gc := by
      obtain ⟨cur, hh⟩ := ownsRow_heap nC.ents hob
      have := heap_lt hh; omega
    have hcall := insHeadE_st (HI.out.1.drew.alloc (.cells #[.int .u64 x.k, .int .u64 x.c, .int .u64 x.s, .nilIface] 64)) (u3_a D) (by simp; omega) HVC.out hlc0 (by omega) x W.heap.size (alloc_new W _) hgc
    have HC := (show Hid _ from hcall)
    have HA := (show Hid (_ ∧ _) from ⟨f1, a1⟩)
    have ltp : bp < W.heap.size := heap_lt nP.hd
    have ltc : bc < W.heap.size := heap_lt nC.hd
    clear hcall nC nP hix hi f1 a1 hob hgc
    go_region_with (go_at_call 39; refine Calls.mono HC.out ?_; rintro e wf ⟨g', cap', rfl, hput⟩; have z := hput.2.2 bc nc 1 (u3_a D); rw [HA.out.1, HA.out.2] at z; have y1 := z.1; have y2 := z.2; have HPUT := (show Hid _ from hput); clear z hput)
    all_goals
      go_wp2_with fail
      go_meet
      obtain ⟨hp1, hp2, -⟩ := HPUT.out
      rw [u3_ua D] at hp1
      exact ⟨_, hp1, ((HI.out.2.trans (Kp.drew B _)).trans (Kp.alloc (by exact hBW) _)).trans hp2, rfl, rfl, rfl⟩
  case rest =>
    obtain ⟨nc1, hI, hK, hes1, hcs1, hks1⟩ := hcut.out
    have T : Hid (Inv B wc (u3 σ bc bp bl nc1 np nl) ∧ Kp B w wc ∧ nc1.es = x :: nc.es ∧ nc1.cs = nc.cs ∧ nc1.keys = nc.keys) := ⟨hI, hK, hes1, hcs1, hks1⟩
    have hBc : B ≤ wc.heap.size := Nat.le_trans hB hK.size
    clear hcut hI hK hes1 hcs1 hks1 HI hBW c1
    go_upto_region 9 with fail
    go_cut [] from 14 to 104 (fun wx => Hid (∃ np1, Inv B wx (u3 σ bc bp bl nc1 np1 nl) ∧ Kp B w wx ∧ np1.es = np.es.set j y ∧ np1.cs = np.cs ∧ np1.keys = np.keys))
    case first =>
      have nP := T.out.1.node bp np (u3_b D)
      have nL := T.out.1.node bl nl u3_c
      obtain ⟨ge, le, cape, HVE, hle0, hle1, p1, -, -⟩ := nP.rowE (by have := (List.getElem?_eq_some_iff.1 HP.out.2.2.1).1; omega)
      obtain ⟨hi, hix⟩ := List.getElem?_eq_some_iff.1 HP.out.2.2.1
      obtain ⟨x0, x1, x2, x3⟩ := nP.entry HVE.out.1 hi
      have g0 := nP.freeE HVE.out.1 (j * 4)
      have g1 := nP.freeE HVE.out.1 (j * 4 + 1)
      have g2 := nP.freeE HVE.out.1 (j * 4 + 2)
      have g3 := nP.freeE HVE.out.1 (j * 4 + 3)
      rw [hix] at x0 x1 x2
      have hje : (j : Int) < le := by rw [HVE.out.2]; omega
      have l1 : wc.cell? ⟨bl, 1, none⟩ = some (.slice (some ⟨gl, 0, none⟩) (q + 1) capl) := by rw [nL.cells.2.1, HVL.out.1]
      have hyq : ∃ hq : q < nl.es.length, nl.es[q] = y := ⟨by have := HVL.out.2; omega, by have := HP.out; simp [this.2.2.2.1, this.2.2.2.2]⟩
      obtain ⟨hq, hqy⟩ := hyq
      obtain ⟨y0, y1, y2, y3⟩ := nL.entry HVL.out.1 hq
      rw [hqy] at y0 y1 y2
      have hqq : (q : Int) < (q : Int) + 1 := by omega
      obtain ⟨hI, hK⟩ := T.out.1.setEntry (u3_b D) HVE.out.1 hi y
      rw [u3_ub D] at hI
      have HF := (show Hid (_ ∧ _) from ⟨hI.drew, (T.out.2.1.trans hK).trans (Kp.drew B _)⟩)
      clear nP nL hI hK hq hqy hi hix
      apply wp_region_one
      case h =>
        go_region_law (fail)
        all_goals exact ⟨rfl, rfl⟩
      case k =>
        go_wp2_with fail
        go_meet
        exact ⟨_, HF.out.1, HF.out.2, rfl, rfl, rfl⟩
    case rest =>
      obtain ⟨np1, hI, hK, hes2, hcs2, hks2⟩ := hcut.out
      have T1 : Hid (nc1.es = x :: nc.es ∧ nc1.cs = nc.cs ∧ nc1.keys = nc.keys ∧ np1.es = np.es.set j y ∧ np1.cs = np.cs ∧ np1.keys = np.keys) := ⟨T.out.2.2.1, T.out.2.2.2.1, T.out.2.2.2.2, hes2, hcs2, hks2⟩
      have T2 : Hid (Inv B wc (u3 σ bc bp bl nc1 np1 nl) ∧ Kp B w wc) := ⟨hI, hK⟩
      clear hBc
      have hBc : B ≤ wc.heap.size := Nat.le_trans hB hK.size
      clear hcut hI hK hes2 hcs2 hks2 T
      go_upto_region 10 with fail
      go_cut [] from 14 to 113 (fun wx => Hid (∃ nl1, Inv B wx (u3 σ bc bp bl nc1 np1 nl1) ∧ Kp B w wx ∧ nl1.es = ly ∧ nl1.cs = nl.cs ∧ nl1.keys = nl.keys))
      case first =>
        have nL := T2.out.1.node bl nl u3_c
        have f1 := nL.free 1
        have l1 : wc.cell? ⟨bl, 1, none⟩ = some (.slice (some ⟨gl, 0, none⟩) (q + 1) capl) := by rw [nL.cells.2.1, HVL.out.1]
        have hcall := cutE_st T2.out.1 u3_c hBc HVL.out q (by omega)
        have HC := (show Hid _ from hcall)
        clear hcall nL
        go_wp2_with fail
        refine Calls.mono HC.out ?_
        rintro e wf ⟨rfl, hput⟩
        have z := hput.2.2 bl nl 1 u3_c
        have y1 : wf.cell? ⟨bl, 1, none⟩ = some (.slice (some ⟨gl, 0, none⟩) (q + 1) capl) := by rw [z.1]; exact l1
        have y2 : wf.frozen? ⟨bl, 1, none⟩ = false := by rw [z.2]; exact f1
        have HPUT := (show Hid _ from hput)
        clear z hput HC l1 f1
        go_wp2_with fail
        go_meet
        obtain ⟨hp1, hp2, -⟩ := HPUT.out
        rw [u3_uc] at hp1
        refine ⟨_, hp1, T2.out.2.trans hp2, ?_, rfl, rfl⟩
        show nl.es.take q = ly
        rw [HP.out.2.2.2.1, HP.out.2.2.2.2]; simp
      case rest =>
        obtain ⟨nl1, hI, hK, hes3, hcs3, hks3⟩ := hcut.out
        have T3 : Hid (Inv B wc (u3 σ bc bp bl nc1 np1 nl1) ∧ Kp B w wc ∧ nl1.es = ly ∧ nl1.cs = nl.cs ∧ nl1.keys = nl.keys) := ⟨hI, hK, hes3, hcs3, hks3⟩
        clear hBc
        have hBc : B ≤ wc.heap.size := Nat.le_trans hB hK.size
        clear hcut hI hK hes3 hcs3 hks3 T2
        go_upto_region 11 with fail
        go_cut [116] from 14 to 116 (fun b wx => b = .bool (!nc.cs.isEmpty) ∧ wx = wc)
        case first =>
          have he : nc1.cs.isEmpty = nc.cs.isEmpty := by rw [T1.out.2.1]
          have HE := (show Hid _ from he)
          have nC1 := T3.out.1.node bc nc1 (u3_a D)
          clear he
          go_wp2_with fail
          refine (leaf_any B bc nc1 _ nC1).mono ?_
          rintro e w' ⟨rfl, hw⟩
          subst w'
          rw [HE.out]
          go_wp2_with fail
          go_meet
          exact ⟨rfl, rfl⟩
        case rest =>
          obtain ⟨hb47, hwc⟩ := hcut
          subst hwc
          subst hb47
          go_upto_if 116 with fail
          rcases HLB.out with ⟨hce, hle⟩ | ⟨lcs, m, nm, hce, hc90, hle, hlcl, hm, hmc, hmp, hml, hs0, hs1, hkc0, hkc1, hkl0, hkl1⟩
          · have HC : Hid (nc.cs = [] ∧ nl.cs = []) := ⟨hce, hle⟩
            have hcb : nc.cs.isEmpty = true := by rw [hce]; rfl
            have HCB := (show Hid (nc.cs.isEmpty = true) from hcb)
            clear hce hle hcb
            rw [HCB.out]
            go_wp2_with fail
            go_ret
            exact ⟨rfl, nc1, np1, nl1, T3.out.1, T3.out.2.1, T1.out.1, T1.out.2.2.2.1, T1.out.2.2.2.2.1, T1.out.2.2.2.2.2, T3.out.2.2.1, .inl ⟨HC.out.1, HC.out.2, by rw [T1.out.2.1, HC.out.1], by rw [T3.out.2.2.2.1, HC.out.2], T1.out.2.2.1, T3.out.2.2.2.2⟩⟩
          · have hcb : nc.cs.isEmpty = false := by cases hq : nc.cs with | nil => exact absurd hq hce | cons _ _ => rfl
            have HCB := (show Hid (nc.cs.isEmpty = false) from hcb)
            have HM : Hid (nl.cs = lcs ++ [m] ∧ lcs.length = q + 1 ∧ σ m = some nm ∧ nc.cs ≠ [] ∧ nc.cs.length ≤ 90) := ⟨hle, by rw [hlcl, HP.out.2.2.2.2], hm, hce, hc90⟩
            have hmm : ∀ a b c, u3 σ bc bp bl a b c m = some nm := fun a b c => by rw [u3_other hmc hmp hml]; exact hm
            have HMM := (show Hid _ from hmm)
            obtain ⟨z, hz⟩ : ∃ z, z = nm.size := ⟨_, rfl⟩
            obtain ⟨kc, hkc⟩ : ∃ kc, kc = nc.keys := ⟨_, rfl⟩
            obtain ⟨kl, hkl⟩ : ∃ kl, kl = nl.keys := ⟨_, rfl⟩
            rw [← hz] at hs0 hs1
            rw [← hkc] at hkc0 hkc1
            rw [← hkl] at hkl0 hkl1
            have HZ : Hid (z = nm.size ∧ kc = nc.keys ∧ kl = nl.keys) := ⟨hz, hkc, hkl⟩
            clear hcb hle hlcl hm hce hc90 hmm hz hkc hkl
            rw [HCB.out]
            -- moved := left.children[last+1]
            have nL := T3.out.1.node bl nl1 u3_c
            obtain ⟨gm, lm, capm, HVM, hlm0, hlm1, m2, -, -⟩ := nL.rowC (by rw [T3.out.2.2.2.1, HM.out.1]; simp)
            have hlm : lm = q + 2 := by rw [HVM.out.2, T3.out.2.2.2.1, HM.out.1]; simp; have := HM.out.2.1; omega
            subst hlm
            have mk : wc.cell? ⟨gm, q + 1, none⟩ = some (.pointer (some ⟨m, 0, none⟩)) := by
              have hlt : q + 1 < nl1.cs.length := by have := HVM.out.2; omega
              have := nL.kid HVM.out.1 (i := q + 1) hlt
              rw [this]
              have h2 : nl1.cs[q + 1] = m := by
                have h3 : nl1.cs = lcs ++ [m] := by rw [T3.out.2.2.2.1, HM.out.1]
                have h4 := HM.out.2.1
                simp [h3, ← h4]
              rw [h2]
            have nC := T3.out.1.node bc nc1 (u3_a D)
            obtain ⟨gn, ln, capn, HVN, hln0, hln1, n2, -, hgn⟩ := nC.rowC (by rw [T1.out.2.1]; exact List.length_pos_iff.2 HM.out.2.2.2.1)
            have hln90 : ln ≤ 90 := by rw [HVN.out.2, T1.out.2.1]; exact HM.out.2.2.2.2
            have a1 := alloc_cell0 (.cells #[.pointer (some ⟨m, 0, none⟩)] 29) n2
            have f1 := alloc_frozen0 (.cells #[.pointer (some ⟨m, 0, none⟩)] 29) (heap_lt nC.hd) (nC.free 2)
            have hcall := insHeadC_st (T3.out.1.alloc (.cells #[.pointer (some ⟨m, 0, none⟩)] 29)) (u3_a D) (by simp; omega) HVN.out hln0 (by omega) m wc.heap.size (alloc_new0 wc _) (by omega)
            have HC := (show Hid _ from hcall)
            have HA := (show Hid (_ ∧ _) from ⟨f1, a1⟩)
            have ltc : bc < wc.heap.size := heap_lt nC.hd
            clear hcall nC nL a1 f1
            go_upto_region 13 with fail
            go_cut [] from 14 to 134 (fun wx => Hid (∃ nc2, Inv B wx (u3 σ bc bp bl nc2 np1 nl1) ∧ Kp B w wx ∧ nc2.es = nc1.es ∧ nc2.cs = m :: nc.cs ∧ nc2.keys = nc.keys))
            case first =>
              go_wp2_with fail
              refine Calls.mono HC.out ?_
              rintro e wf ⟨g', cap', rfl, hput⟩
              have z := hput.2.2 bc nc1 2 (u3_a D)
              rw [HA.out.1, HA.out.2] at z
              have y1 := z.1
              have y2 := z.2
              have HPUT := (show Hid _ from hput)
              clear z hput HC HA
              go_wp2_with fail
              go_meet
              obtain ⟨hp1, hp2, -⟩ := HPUT.out
              rw [u3_ua D] at hp1
              exact ⟨_, hp1, (T3.out.2.1.trans (Kp.alloc hBc _)).trans hp2, rfl, by show m :: nc1.cs = _; rw [T1.out.2.1], by show nc1.keys = _; rw [T1.out.2.2.1]⟩
            case rest =>
              obtain ⟨nc2, hI, hK, hes4, hcs4, hks4⟩ := hcut.out
              have T5 : Hid (Inv B wc (u3 σ bc bp bl nc2 np1 nl1) ∧ Kp B w wc ∧ nc2.es = nc1.es ∧ nc2.cs = m :: nc.cs ∧ nc2.keys = nc.keys) := ⟨hI, hK, hes4, hcs4, hks4⟩
              clear hBc
              have hBc : B ≤ wc.heap.size := Nat.le_trans hB hK.size
              have HT3 : Hid (nl1.es = ly ∧ nl1.cs = nl.cs ∧ nl1.keys = nl.keys) := T3.out.2.2
              clear hcut hI hK hes4 hcs4 hks4 T3 m2 mk n2 HC HA hgn
              have nL := T5.out.1.node bl nl1 u3_c
              have f2 := nL.free 2
              have m2 : wc.cell? ⟨bl, 2, none⟩ = some (.slice (some ⟨gm, 0, none⟩) (q + 2) capm) := by rw [nL.cells.2.2.1, HVM.out.1]
              have hcall := cutC_st T5.out.1 u3_c hBc HVM.out (q + 1) (by omega) (by omega)
              rw [show (((q + 1 : Nat) : Int)) = (q : Int) + 1 by omega] at hcall
              have HC := (show Hid _ from hcall)
              clear hcall nL
              go_upto_region 14 with fail
              go_cut [] from 14 to 144 (fun wx => Hid (∃ nl2, Inv B wx (u3 σ bc bp bl nc2 np1 nl2) ∧ Kp B w wx ∧ nl2.es = nl1.es ∧ nl2.cs = lcs ∧ nl2.keys = nl.keys))
              case first =>
                go_wp2_with fail
                refine Calls.mono HC.out ?_
                rintro e wf ⟨rfl, hput⟩
                have z := hput.2.2 bl nl1 2 u3_c
                rw [f2, m2] at z
                have y1 := z.1
                have y2 := z.2
                have HPUT := (show Hid _ from hput)
                clear z hput HC m2 f2
                go_wp2_with fail
                go_meet
                obtain ⟨hp1, hp2, -⟩ := HPUT.out
                rw [u3_uc] at hp1
                refine ⟨_, hp1, T5.out.2.1.trans hp2, rfl, ?_, HT3.out.2.2⟩
                show nl1.cs.take (q + 1) = lcs
                rw [HT3.out.2.1, HM.out.1, ← HM.out.2.1]; simp
              case rest =>
                obtain ⟨nl2, hI, hK, hes5, hcs5, hks5⟩ := hcut.out
                have T6 : Hid (Inv B wc (u3 σ bc bp bl nc2 np1 nl2) ∧ Kp B w wc ∧ nl2.es = nl1.es ∧ nl2.cs = lcs ∧ nl2.keys = nl.keys) := ⟨hI, hK, hes5, hcs5, hks5⟩
                clear hcut hI hK hes5 hcs5 hks5 m2 f2 HC
                -- c.keys += 1 + moved.size()
                have nC := T6.out.1.node bc nc2 (u3_a D)
                have f3 := nC.free 3
                have c3 : wc.cell? ⟨bc, 3, none⟩ = some (.int .i64 kc) := by rw [nC.cells.2.2.2, T5.out.2.2.2.2, HZ.out.2.1]
                have nM := T6.out.1.node m nm (HMM.out _ _ _)
                have nM1 : NodeAt B wc.drew m nm := nM.keep rfl (fun _ _ => rfl) (fun _ _ => rfl)
                have hw1 : IntKind.i64.wrap (1 + z) = 1 + z := IntWalk.i64_in _ (by omega)
                have hw2 : IntKind.i64.wrap (kc + (1 + z)) = kc + (1 + z) := IntWalk.i64_in _ (by omega)
                obtain ⟨hI, hK⟩ := T6.out.1.setKeys (u3_a D) (kc + (1 + z))
                rw [u3_ua D] at hI
                have HF := (show Hid (_ ∧ _) from ⟨hI.drew, (T6.out.2.1.trans hK).trans (Kp.drew B _)⟩)
                clear nC nM hI hK
                go_upto_region 15 with fail
                go_cut [] from 14 to 154 (fun wx => Hid (∃ nc3, Inv B wx (u3 σ bc bp bl nc3 np1 nl2) ∧ Kp B w wx ∧ nc3.es = nc2.es ∧ nc3.cs = nc2.cs ∧ nc3.keys = kc + (1 + z)))
                case first =>
                  apply wp_region_one
                  case h =>
                    go_region_with (go_at_call 33; refine (size_any B m nm wc.drew nM1).mono ?_; rintro e w' ⟨rfl, hw⟩; subst w'; rw [← HZ.out.1])
                    all_goals exact ⟨rfl, rfl⟩
                  case k =>
                    go_wp2_with fail
                    go_meet
                    exact ⟨_, HF.out.1, HF.out.2, rfl, rfl, rfl⟩
                case rest =>
                  obtain ⟨nc3, hI, hK, hes6, hcs6, hks6⟩ := hcut.out
                  have T7 : Hid (Inv B wc (u3 σ bc bp bl nc3 np1 nl2) ∧ Kp B w wc ∧ nc3.es = nc2.es ∧ nc3.cs = nc2.cs ∧ nc3.keys = kc + (1 + z)) := ⟨hI, hK, hes6, hcs6, hks6⟩
                  clear hcut hI hK hes6 hcs6 hks6 nM1 c3 f3 hw2 HF
                  have nL := T7.out.1.node bl nl2 u3_c
                  have f3 := nL.free 3
                  have l3 : wc.cell? ⟨bl, 3, none⟩ = some (.int .i64 kl) := by rw [nL.cells.2.2.2, T6.out.2.2.2.2, HZ.out.2.2]
                  have nM := T7.out.1.node m nm (HMM.out _ _ _)
                  have nM1 : NodeAt B wc.drew m nm := nM.keep rfl (fun _ _ => rfl) (fun _ _ => rfl)
                  have hw2 : IntKind.i64.wrap (kl - (1 + z)) = kl - (1 + z) := IntWalk.i64_in _ (by omega)
                  obtain ⟨hI, hK⟩ := T7.out.1.setKeys u3_c (kl - (1 + z))
                  rw [u3_uc] at hI
                  have HF := (show Hid (_ ∧ _) from ⟨hI.drew, (T7.out.2.1.trans hK).trans (Kp.drew B _)⟩)
                  clear nL nM hI hK
                  go_upto_region 16 with fail
                  apply wp_region_one
                  case h =>
                    go_region_with (go_at_call 33; refine (size_any B m nm wc.drew nM1).mono ?_; rintro e w' ⟨rfl, hw⟩; subst w'; rw [← HZ.out.1])
                    all_goals exact ⟨rfl, rfl⟩
                  case k =>
                    go_wp2_with fail
                    go_ret
                    refine ⟨rfl, nc3, np1, _, HF.out.1, HF.out.2, by rw [T7.out.2.2.1, T5.out.2.2.1, T1.out.1], T1.out.2.2.2.1, T1.out.2.2.2.2.1, T1.out.2.2.2.2.2, by show nl2.es = _; rw [T6.out.2.2.1, HT3.out.1], .inr ⟨lcs, m, nm, HM.out.1, HM.out.2.2.1, T6.out.2.2.2.1, by rw [T7.out.2.2.2.1, T5.out.2.2.2.1], ?_, ?_⟩⟩
                    · rw [T7.out.2.2.2.2, HZ.out.2.1, HZ.out.1]
                    · show kl - (1 + z) = _
                      rw [HZ.out.2.2, HZ.out.1]
end Go.Proofs.Qxb6613550a
