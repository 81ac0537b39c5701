/-
  Map.split of the last child, which is full: its upper half goes to a new node behind it.
-/
import Derived.Test.Qxb6613550aKeep
import Derived.Deep.RegionHeldLaw
import Derived.Deep.CutRange
namespace Go.Proofs.Qxb6613550a
open Go.RowKit
set_option linter.unusedVariables false

/-- What goes with the entries: nothing (a leaf), or the upper half of the children. -/
def Spk (σ : Sto) (nc nc' nr' : ND) : Prop :=
  (nc.cs = [] ∧ nc'.cs = [] ∧ nr'.cs = [] ∧ nc'.keys = nc.keys ∧ nr'.keys = 0) ∨
  ∃ kl kr, nc.cs = kl ++ kr ∧ kl.length = 16 ∧ kr.length = 16 ∧ nc'.cs = kl ∧ nr'.cs = kr ∧ nr'.keys = 15 + sumSize σ kr ∧ nc'.keys = nc.keys - (1 + (15 + sumSize σ kr))

def SpkIn (σ : Sto) (bc bp : Nat) (nc : ND) : Prop :=
  nc.cs = [] ∨ (nc.cs.length = 32 ∧ 0 ≤ nc.keys ∧ nc.keys ≤ 1000000 ∧ ∀ kl kr, nc.cs = kl ++ kr → kl.length = 16 → (∀ x ∈ kr, x ≠ bc ∧ x ≠ bp ∧ ∃ n, σ x = some n) ∧ ∀ t, t ≤ kr.length → 0 ≤ sumSize σ (kr.take t) ∧ sumSize σ (kr.take t) ≤ 900000)

theorem upd_id {σ : Sto} {b : Nat} {nd : ND} (h : σ b = some nd) : upd σ b nd = σ := by
  funext x; simp only [upd]; split
  · next e => rw [e, h]
  · rfl

theorem sumSize_congr {σ σ' : Sto} {l : List Nat} (h : ∀ x ∈ l, σ' x = σ x) : sumSize σ' l = sumSize σ l := by
  induction l with
  | nil => rfl
  | cons x l ih => simp only [sumSize]; rw [h x (by simp), ih (fun y hy => h y (by simp [hy]))]

abbrev midObj (m : Ent) : Obj := .cells #[.int .u64 m.k, .int .u64 m.c, .int .u64 m.s, .nilIface] 64

set_option maxHeartbeats 6400000 in
set_option maxRecDepth 100000 in
theorem split_any (B S bp bc i : Nat) (cur : Array Value) (np nc : ND) (cl cr : List Ent) (mid : Ent) (a : List Nat) (σ : Sto) (w : World) (h : Inv B w σ) (hB : B ≤ w.heap.size)
    (hp : σ bp = some np) (hc : σ bc = some nc) (hcp : bc ≠ bp) (hes : nc.es = cl ++ mid :: cr) (hl1 : cl.length = 15) (hl2 : cr.length = 15)
    (hcs : np.cs = a ++ [bc]) (hi1 : np.es.length = i) (hi2 : a.length = i) (hi : i ≤ 40) (hS : w.heap[S]? = some (.cells cur 36 (0, 0))) (h2 : cur[2]? = some (.int .u64 0)) (hk : SpkIn σ bc bp nc) :
    Calls Try.prog 43 #[.pointer (some ⟨S, 0, none⟩), .pointer (some ⟨bp, 0, none⟩), .int .i64 i] w fun e w' => e = .returned (.tuple #[]) ∧ ∃ br nc' np' nr', w.heap.size ≤ br ∧ Inv B w' (u3 σ bc bp br nc' np' nr') ∧ Kp B w w' ∧
      nc'.es = cl ∧ nr'.es = cr ∧ np'.es = np.es ++ [mid] ∧ np'.cs = np.cs ++ [br] ∧ np'.keys = np.keys ∧ Spk σ nc nc' nr' := by
  have hcell : ∀ (W : World), W.heap[S]? = some (.cells cur 36 (0, 0)) → W.cell? ⟨S, 2, none⟩ = some (.int .u64 0) := fun W hW => by rw [cell_of_row W S 2 cur 36 (0, 0) hW]; exact h2
  have HCELL := (show Hid _ from hcell)
  have nP := h.node bp np hp
  have nC := h.node bc nc hc
  obtain ⟨gk, lk, capk, HVK, hlk0, hlk1, k0, -, -⟩ := nP.rowC (by rw [hcs]; simp)
  have kc : w.cell? ⟨gk, i, none⟩ = some (.pointer (some ⟨bc, 0, none⟩)) := by
    have := nP.kid HVK.out.1 (i := i) (by rw [hcs]; simp; omega)
    simpa [hcs, ← hi2] using this
  have hiI : (i : Int) < lk := by rw [HVK.out.2, hcs]; simp; omega
  have hown := own_any B S bc nc ⟨gk, i, none⟩ w nC (hcell w hS) kc
  have HOWN := (show Hid _ from hown)
  obtain ⟨gc, lc, capc, HVC, hlc0, hlc1, c1, -, hgc⟩ := nC.rowE (by rw [hes]; simp; omega)
  have hlc : lc = 31 := by rw [HVC.out.2, hes]; simp; omega
  subst hlc
  have hcap : 31 ≤ capc := by
    have own0 := nC.ents
    rw [HVC.out.1, ← HVC.out.2] at own0
    obtain ⟨cur0, _, _, hnc, _⟩ := ownsRow_row own0
    exact hnc
  have hm15 : ∃ hq : 15 < nc.es.length, nc.es[15] = mid := ⟨by rw [hes]; simp; omega, by simp [hes, ← hl1]⟩
  obtain ⟨hq, hqm⟩ := hm15
  obtain ⟨x0, x1, x2, x3⟩ := nC.entry HVC.out.1 hq
  rw [hqm] at x0 x1 x2
  have HP : Hid (nc.es = cl ++ mid :: cr ∧ cl.length = 15 ∧ cr.length = 15 ∧ np.cs = a ++ [bc] ∧ np.es.length = i ∧ a.length = i) := ⟨hes, hl1, hl2, hcs, hi1, hi2⟩
  have HS : Hid (σ bp = some np ∧ σ bc = some nc ∧ w.heap[S]? = some (.cells cur 36 (0, 0))) := ⟨hp, hc, hS⟩
  have HH : Hid (Inv B w σ) := h
  have HH2 : Hid (Inv B w σ) := h
  have HSP : Hid (SpkIn σ bc bp nc) := hk
  clear hcell hown hes hl1 hl2 hcs hi1 hi2 hp hc hS h2 hk h nP nC hq hqm
  go_enter Try.func43, Try.ntmps43
  go_wp2_with fail
  refine Calls.mono HOWN.out ?_
  rintro e w0 ⟨rfl, n0, hw0⟩
  have HW0 : Hid (Inv B w0 σ ∧ Kp B w w0 ∧ w0.heap.size = w.heap.size ∧ w0.heap[S]? = some (.cells cur 36 (0, 0))) := by
    rw [hw0]; exact ⟨HH.out.drewN n0, Kp.drewN B w n0, rfl, HS.out.2.2⟩
  have c1' : w0.cell? ⟨bc, 1, none⟩ = some (.slice (some ⟨gc, 0, none⟩) 31 capc) := by rw [hw0]; exact c1
  have x0' : w0.cell? ⟨gc, 60, none⟩ = some (.int .u64 mid.k) := by rw [hw0]; exact x0
  have x1' : w0.cell? ⟨gc, 61, none⟩ = some (.int .u64 mid.c) := by rw [hw0]; exact x1
  have x2' : w0.cell? ⟨gc, 62, none⟩ = some (.int .u64 mid.s) := by rw [hw0]; exact x2
  have x3' : w0.cell? ⟨gc, 63, none⟩ = some .nilIface := by rw [hw0]; exact x3
  have HGC : Hid (gc < w.heap.size) := hgc
  clear hw0 c1 x0 x1 x2 x3 k0 kc hiI HOWN HH hgc
  go_upto_region 3 with fail
  have H3 : Hid (Inv B (w0.alloc (midObj mid)) σ ∧ Kp B w (w0.alloc (midObj mid)) ∧ (w0.alloc (midObj mid)).heap[w0.heap.size]? = some (midObj mid) ∧ (w0.alloc (midObj mid)).heap[S]? = some (.cells cur 36 (0, 0)) ∧ w.heap.size ≤ (w0.alloc (midObj mid)).heap.size) := by
    obtain ⟨q1, q2, q3, q4⟩ := HW0.out
    refine ⟨q1.alloc _, q2.trans (Kp.alloc (by omega) _), alloc_new0 w0 _, ?_, by simp; omega⟩
    rw [Below.heap_alloc w0 _ S (heap_lt q4)]; exact q4
  have c3 : (w0.alloc (midObj mid)).cell? ⟨bc, 1, none⟩ = some (.slice (some ⟨gc, 0, none⟩) 31 capc) := alloc_cell0 _ c1'
  have hpm0 : w.heap.size ≤ w0.heap.size := by rw [HW0.out.2.2.1]; omega
  clear c1' x0' x1' x2' x3' HW0
  generalize w0.alloc (midObj mid) = W3 at H3 c3 ⊢
  have hpmw : w.heap.size ≤ w0.heap.size := hpm0
  clear hpm0
  generalize w0.heap.size = pm at H3 hpmw ⊢
  have hB3 : B ≤ W3.heap.size := Nat.le_trans hB H3.out.2.2.2.2
  go_cut [9] from 10 to 44 (fun s9 wx => ∃ br : Nat, s9 = .pointer (some ⟨br, 0, none⟩) ∧ Hid (∃ nr0, w.heap.size ≤ br ∧ Inv B wx (u3 σ bc bp br nc np nr0) ∧ Kp B w wx ∧ nr0.es = cr ∧ nr0.cs = [] ∧ nr0.keys = 0 ∧ wx.heap[pm]? = some (midObj mid)))
  case first =>
    have s2 := HCELL.out W3 H3.out.2.2.2.1
    have nC := H3.out.1.node bc nc HS.out.2.1
    have hsrc : ∀ j u, (entsCells cr)[j]? = some u → W3.drew.cell? ((⟨gc, 64, none⟩ : Addr).add j) = some u := fun j u hu => by
      have hob : nc.ve.ownBlock = some gc := by rw [HVC.out.1]; rfl
      have hh := nC.ents.cells hob (64 + j) u (by
        have h1 : entsCells nc.es = entsCells (cl ++ [mid]) ++ entsCells cr := by rw [← entsCells_append, HP.out.1]; simp
        have h2 : (entsCells (cl ++ [mid])).length = 64 := by rw [entsCells_length]; simp; have := HP.out.2.1; omega
        rw [h1, List.getElem?_append_right (by omega), h2, Nat.add_sub_cancel_left]; exact hu)
      rw [Addr.add_lit] at hh ⊢
      simpa using hh
    have hcall := cloneE B ⟨gc, 64, none⟩ 15 (capc - 16) (entsCells cr) W3.drew (by simpa using hB3) hsrc (by rw [entsCells_length]; have := HP.out.2.2.1; omega) (by omega) (by omega) (entsCells_oneCell cr)
    have HC := (show Hid _ from hcall)
    have hS3 : S < W3.heap.size := heap_lt H3.out.2.2.2.1
    have hcapI : (31 : Int) ≤ capc := by omega
    clear hcall hsrc nC
    go_region_with (go_at_call 36; refine Calls.mono HC.out ?_; rintro e wf ⟨g', cap', rfl, hown, hgr, hg⟩; have s2f : wf.cell? ⟨S, 2, none⟩ = some (.int .u64 0) := HCELL.out wf (by rw [hgr.block S hS3 (by simp)]; exact H3.out.2.2.2.1); have HFF := (show Hid (_ ∧ _ ∧ _) from ⟨hown, hgr, hg⟩); clear hown hgr hg)
    all_goals
      go_wp2_with fail
      go_meet
      obtain ⟨hown, hgr, hg⟩ := HFF.out
      obtain ⟨o, ho⟩ : ∃ o, o = Obj.cells #[.int .u64 0, .slice (some ⟨g', 0, none⟩) 15 cap', .slice none 0 0, .int .i64 0] 67 := ⟨_, rfl⟩
      have hsz : W3.heap.size ≤ wf.heap.size := hgr.size
      have hk : ∀ k, k < W3.heap.size → (wf.alloc o).heap[k]? = W3.heap[k]? := fun k hk => by
        rw [Below.heap_alloc wf o k (by omega)]; exact hgr.block k hk (by simp)
      have hnode : NodeAt B (wf.alloc o) wf.heap.size ⟨.slice (some ⟨g', 0, none⟩) 15 cap', .slice none 0 0, cr, [], 0⟩ := by
        refine ⟨by omega, by rw [ho]; exact alloc_new0 wf _, ?_, ⟨rfl, .inl ⟨rfl, rfl⟩⟩, fun _ => rfl, by show cr.length ≤ 100; have := HP.out.2.2.1; omega, by simp⟩
        have hl : cr.length = 15 := HP.out.2.2.1
        show World.ownsRow _ B 64 4 (.slice (some ⟨g', 0, none⟩) 15 cap') cr.length (entsCells cr)
        rw [hl]
        exact ownsRow_same hown (fun g hg' => Below.heap_alloc wf o g ((hown.lt g hg').2))
      have hI := H3.out.1.new (b := wf.heap.size) hk hsz hnode (fun g hg' => by simp [Value.ownBlock] at hg'; have : W3.heap.size ≤ g' := hg; omega) (fun g hg' => by simp [Value.ownBlock] at hg')
      have hu : ∀ n, u3 σ bc bp wf.heap.size nc np n = upd σ wf.heap.size n := fun n => by unfold u3; rw [upd_id HS.out.2.1, upd_id HS.out.1]
      have hKf : Kp B w (wf.alloc o) := H3.out.2.1.trans (Kp.of_below ⟨hgr.os, hgr.tape, hgr.output, by simp; omega, fun k hk' => hk k hk'⟩ hB3)
      subst ho
      refine ⟨wf.heap.size, rfl, ⟨.slice (some ⟨g', 0, none⟩) 15 cap', .slice none 0 0, cr, [], 0⟩, Nat.le_trans H3.out.2.2.2.2 hsz, by rw [hu]; exact hI, hKf, rfl, rfl, rfl, ?_⟩
      rw [hk pm (heap_lt H3.out.2.2.1)]; exact H3.out.2.2.1
  case rest =>
    obtain ⟨br, rfl, hcut⟩ := hcut
    obtain ⟨nr0, hbr, hI, hK, e1, e2, e3, hpm⟩ := hcut.out
    have D : Dif bc bp br := by
      have h1 := HH2.out.lt HS.out.2.1
      have h2 := HH2.out.lt HS.out.1
      exact ⟨hcp, by omega, by omega⟩
    have T : Hid (Inv B wc (u3 σ bc bp br nc np nr0) ∧ Kp B w wc ∧ nr0.es = cr ∧ nr0.cs = [] ∧ nr0.keys = 0 ∧ wc.heap[pm]? = some (midObj mid)) := ⟨hI, hK, e1, e2, e3, hpm⟩
    have hBc : B ≤ wc.heap.size := Nat.le_trans hB hK.size
    clear hcut hI hK e1 e2 e3 hpm H3 c3 hB3
    go_upto_region 4 with fail
    go_cut [47] from 10 to 47 (fun b wx => b = .bool (!nc.cs.isEmpty) ∧ wx = wc)
    case first =>
      have nC := T.out.1.node bc nc (u3_a D)
      go_wp2_with fail
      refine (leaf_any B bc nc _ nC).mono ?_
      rintro e w' ⟨rfl, hw⟩
      subst w'
      clear nC
      go_wp2_with fail
      go_meet
      exact ⟨rfl, rfl⟩
    case rest =>
      obtain ⟨hb47, hwc⟩ := hcut
      subst hwc
      subst hb47
      go_upto_if 47 with fail
      go_cut [] from 10 to 82 (fun wx => Hid (∃ nc1 nr1, Inv B wx (u3 σ bc bp br nc1 np nr1) ∧ Kp B w wx ∧ nc1.es = nc.es ∧ nc1.ve = nc.ve ∧ nr1.es = cr ∧ Spk σ nc nc1 nr1 ∧ wx.heap[pm]? = some (midObj mid)))
      case first =>
        rcases HSP.out with hce | ⟨h32, hk0, hk1, hkk⟩
        · have hcb : nc.cs.isEmpty = true := by rw [hce]; rfl
          have HCB := (show Hid (nc.cs.isEmpty = true) from hcb)
          have HCE := (show Hid _ from hce)
          clear hce hcb
          rw [HCB.out]
          go_wp2_with fail
          go_meet
          exact ⟨nc, nr0, T.out.1, T.out.2.1, rfl, rfl, T.out.2.2.1, .inl ⟨HCE.out, HCE.out, T.out.2.2.2.1, rfl, T.out.2.2.2.2.1⟩, T.out.2.2.2.2.2⟩
        · have hcb : nc.cs.isEmpty = false := by cases hq : nc.cs with | nil => rw [hq] at h32; simp at h32 | cons _ _ => rfl
          have HCB := (show Hid (nc.cs.isEmpty = false) from hcb)
          obtain ⟨kl, kr, hkl, hl16, hr16⟩ : ∃ kl kr, nc.cs = kl ++ kr ∧ kl.length = 16 ∧ kr.length = 16 := ⟨nc.cs.take 16, nc.cs.drop 16, (List.take_append_drop 16 nc.cs).symm, by rw [List.length_take]; omega, by rw [List.length_drop]; omega⟩
          obtain ⟨hkm, hsum⟩ := hkk kl kr hkl hl16
          have HK : Hid (nc.cs = kl ++ kr ∧ kl.length = 16 ∧ kr.length = 16 ∧ (∀ x ∈ kr, x ≠ bc ∧ x ≠ bp ∧ ∃ n, σ x = some n) ∧ ∀ t, t ≤ kr.length → 0 ≤ sumSize σ (kr.take t) ∧ sumSize σ (kr.take t) ≤ 900000) := ⟨hkl, hl16, hr16, hkm, hsum⟩
          have nC := T.out.1.node bc nc (u3_a D)
          have nR := T.out.1.node br nr0 u3_c
          obtain ⟨gq, lq, capq, HVQ, hlq0, hlq1, c2, hgqb, hgq⟩ := nC.rowC (by omega)
          have hlq : lq = 32 := by rw [HVQ.out.2, h32]
          subst hlq
          have hcapq : 32 ≤ capq := by
            have own0 := nC.kids
            rw [HVQ.out.1, ← HVQ.out.2] at own0
            obtain ⟨cur0, _, _, hnc, _⟩ := ownsRow_row own0
            exact hnc
          have hob : nc.vc.ownBlock = some gq := by rw [HVQ.out.1]; rfl
          have hsrc : ∀ j u, (ptrs kr)[j]? = some u → wc.cell? ((⟨gq, 16, none⟩ : Addr).add j) = some u := fun j u hu => by
            have hh := nC.kids.cells hob (16 + j) u (by
              have h1 : ptrs nc.cs = ptrs kl ++ ptrs kr := by rw [← ptrs_append, hkl]
              rw [h1, List.getElem?_append_right (by rw [ptrs_length]; omega), ptrs_length, hl16, Nat.add_sub_cancel_left]; exact hu)
            rw [Addr.add_lit] at hh ⊢
            simpa using hh
          have hcall := cloneC B ⟨gq, 16, none⟩ 16 (capq - 16) (ptrs kr) wc hBc hsrc (by rw [ptrs_length]; omega) (by omega) (by omega) (ptrs_oneCell kr)
          have HC := (show Hid _ from hcall)
          have hvr : nr0.vc = .slice none 0 0 := nR.leaf T.out.2.2.2.1
          have r2 : wc.cell? ⟨br, 2, none⟩ = some (.slice none 0 0) := by rw [nR.cells.2.2.1, hvr]
          have rf2 := nR.free 2
          have hbrl : br < wc.heap.size := heap_lt nR.hd
          have hpmbr : pm ≠ br := fun e => by have h1 := T.out.2.2.2.2.2; rw [e, nR.hd] at h1; simp [midObj] at h1
          have hpmbc : pm ≠ bc := fun e => by have h1 := T.out.2.2.2.2.2; rw [e, nC.hd] at h1; simp [midObj] at h1
          have hpmgq : pm ≠ gq := fun e => by
            obtain ⟨cu, hh⟩ := ownsRow_heap nC.kids hob
            have h1 := T.out.2.2.2.2.2
            rw [e, hh] at h1; simp [midObj] at h1
          have HVR : Hid (nr0.vc = .slice none 0 0) := hvr
          have hcapI : (32 : Int) ≤ capq := by omega
          clear hcall hsrc nC nR hcb hkl hl16 hr16 hkm hsum hob hkk h32 hvr
          rw [HCB.out]
          go_upto_region 5 with fail
          go_cut [] from 10 to 58 (fun wx => Hid (∃ nr1, Inv B wx (u3 σ bc bp br nc np nr1) ∧ Kp B w wx ∧ nr1.es = cr ∧ nr1.cs = kr ∧ nr1.keys = 0 ∧ wx.heap[pm]? = some (midObj mid)))
          case first =>
            go_wp2_with fail
            refine Calls.mono HC.out ?_
            rintro e wf ⟨g', cap', rfl, hown, hgr, hg⟩
            have y1 : wf.cell? ⟨br, 2, none⟩ = some (.slice none 0 0) := by rw [World.cell?_of_block (w := wc) (hgr.block br hbrl (by simp))]; exact r2
            have y2 : wf.frozen? ⟨br, 2, none⟩ = false := by rw [World.frozen?_of_block (w := wc) (hgr.block br hbrl (by simp))]; exact rf2
            have HFF := (show Hid (_ ∧ _ ∧ _) from ⟨hown, hgr, hg⟩)
            clear hown hgr hg r2 rf2
            go_wp2_with fail
            go_meet
            obtain ⟨hown, hgr, hg⟩ := HFF.out
            have hl16 := HK.out.2.2.1
            obtain ⟨hI, hK⟩ := T.out.1.setKids (cs := kr) u3_c hBc (by rw [HVR.out]; exact hgr) (by rw [hl16]; exact hown) (by intro e; rw [e] at hl16; simp at hl16) (by omega) (fun g hg' => by simp [Value.ownBlock] at hg'; exact .inr (by omega))
            rw [u3_uc] at hI
            refine ⟨_, hI, T.out.2.1.trans hK, T.out.2.2.1, rfl, T.out.2.2.2.2.1, ?_⟩
            rw [heap_setCell_not _ hpmbr, hgr.block pm (heap_lt T.out.2.2.2.2.2) (by simp)]; exact T.out.2.2.2.2.2
          case rest =>
            obtain ⟨nr1, hI, hK, e1, e2, e3, e4⟩ := hcut.out
            have T2 : Hid (Inv B wc (u3 σ bc bp br nc np nr1) ∧ Kp B w wc ∧ nr1.es = cr ∧ nr1.cs = kr ∧ nr1.keys = 0 ∧ wc.heap[pm]? = some (midObj mid)) := ⟨hI, hK, e1, e2, e3, e4⟩
            clear hBc
            have hBc : B ≤ wc.heap.size := Nat.le_trans hB hK.size
            clear hcut hI hK e1 e2 e3 e4 T c2 r2 rf2 HC hbrl
            have nC := T2.out.1.node bc nc (u3_a D)
            have c2 : wc.cell? ⟨bc, 2, none⟩ = some (.slice (some ⟨gq, 0, none⟩) 32 capq) := by rw [nC.cells.2.2.1, HVQ.out.1]
            have f2 := nC.free 2
            have hcall := cutC_kp T2.out.1 (u3_a D) hBc HVQ.out 16 (by omega) (by omega)
            have HC := (show Hid _ from hcall)
            clear hcall nC
            go_upto_region 6 with fail
            go_cut [] from 10 to 68 (fun wx => Hid (∃ nc1, Inv B wx (u3 σ bc bp br nc1 np nr1) ∧ Kp B w wx ∧ nc1.es = nc.es ∧ nc1.ve = nc.ve ∧ nc1.cs = kl ∧ nc1.keys = nc.keys ∧ wx.heap[pm]? = some (midObj mid)))
            case first =>
              go_wp2_with fail
              refine Calls.mono HC.out ?_
              rintro e wf ⟨rfl, hput, hkeep⟩
              have z := hput.2.2 bc nc 2 (u3_a D)
              rw [c2, f2] at z
              have y1 := z.1
              have y2 := z.2
              have HPUT := (show Hid (_ ∧ _) from ⟨hput, hkeep⟩)
              clear z hput hkeep HC c2 f2
              go_wp2_with fail
              go_meet
              obtain ⟨⟨hp1, hp2, -⟩, hkeep⟩ := HPUT.out
              rw [u3_ua D] at hp1
              refine ⟨_, hp1, T2.out.2.1.trans hp2, rfl, rfl, ?_, rfl, ?_⟩
              · show nc.cs.take 16 = kl
                rw [HK.out.1, ← HK.out.2.1]; simp
              · exact (hkeep pm (heap_lt T2.out.2.2.2.2.2) hpmbc hpmgq).trans T2.out.2.2.2.2.2
            case rest =>
              obtain ⟨nc1, hI, hK, e1, e2, e3, e4, e5⟩ := hcut.out
              have T3 : Hid (Inv B wc (u3 σ bc bp br nc1 np nr1) ∧ Kp B w wc ∧ nc1.es = nc.es ∧ nc1.ve = nc.ve ∧ nc1.cs = kl ∧ nc1.keys = nc.keys ∧ wc.heap[pm]? = some (midObj mid)) := ⟨hI, hK, e1, e2, e3, e4, e5⟩
              have TR : Hid (nr1.es = cr ∧ nr1.cs = kr ∧ nr1.keys = 0) := ⟨T2.out.2.2.1, T2.out.2.2.2.1, T2.out.2.2.2.2.1⟩
              have hub : ∀ x ∈ kr, u3 σ bc bp br nc1 np nr1 x = σ x := fun x hx => by
                obtain ⟨q1, q2, n, q3⟩ := HK.out.2.2.2.1 x hx
                have := HH2.out.lt q3
                exact u3_other q1 q2 (by omega)
              have hss : ∀ t, sumSize (u3 σ bc bp br nc1 np nr1) (kr.take t) = sumSize σ (kr.take t) := fun t => sumSize_congr (fun x hx => hub x (List.mem_of_mem_take hx))
              have hrc := recount_kp B br nr1 (u3 σ bc bp br nc1 np nr1) wc hI u3_c (by rw [TR.out.2.1]; intro e; have := HK.out.2.2.1; rw [e] at this; simp at this) (by
                  rw [TR.out.2.1]; intro hx
                  obtain ⟨q1, q2, n, q3⟩ := HK.out.2.2.2.1 br hx
                  have := HH2.out.lt q3; omega) (by
                  rw [TR.out.2.1]; intro x hx
                  obtain ⟨q1, q2, n, q3⟩ := HK.out.2.2.2.1 x hx
                  exact ⟨n, by rw [hub x hx]; exact q3⟩) (by
                  rw [TR.out.2.1]; intro t ht
                  rw [hss t]
                  have := HK.out.2.2.2.2 t ht; omega)
              have hsall : sumSize (u3 σ bc bp br nc1 np nr1) nr1.cs = sumSize σ kr := by rw [TR.out.2.1]; exact sumSize_congr hub
              have hes15 : (nr1.es.length : Int) = 15 := by rw [TR.out.1]; have := HP.out.2.2.1; omega
              rw [hsall, hes15, u3_uc] at hrc
              have HRC := (show Hid _ from hrc)
              obtain ⟨z, hz⟩ : ∃ z, z = sumSize σ kr := ⟨_, rfl⟩
              have hz0 : 0 ≤ z ∧ z ≤ 900000 := by
                have := HK.out.2.2.2.2 kr.length (Nat.le_refl _)
                rw [List.take_length] at this; omega
              have HZ : Hid (z = sumSize σ kr) := hz
              clear hcut hI hK e1 e2 e3 e4 e5 T2 hub hss hrc hsall hes15 hz c2 f2 HC
              go_upto_region 7 with fail
              go_cut [] from 10 to 70 (fun wx => Hid (∃ nr2, Inv B wx (u3 σ bc bp br nc1 np nr2) ∧ Kp B w wx ∧ nr2.es = cr ∧ nr2.cs = kr ∧ nr2.keys = 15 + z ∧ wx.heap[pm]? = some (midObj mid)))
              case first =>
                go_wp2_with fail
                refine Calls.mono HRC.out ?_
                rintro e wf ⟨rfl, q1, q2, q3⟩
                have HFF := (show Hid (_ ∧ _ ∧ _) from ⟨q1, q2, q3⟩)
                clear q1 q2 q3 HRC
                go_wp2_with fail
                go_meet
                obtain ⟨q1, q2, q3⟩ := HFF.out
                exact ⟨_, q1, T3.out.2.1.trans q2, TR.out.1, TR.out.2.1, by show 15 + sumSize σ kr = _; rw [HZ.out], by rw [q3 pm hpmbr]; exact T3.out.2.2.2.2.2.2⟩
              case rest =>
                obtain ⟨nr2, hI, hK, e1, e2, e3, e4⟩ := hcut.out
                have T4 : Hid (Inv B wc (u3 σ bc bp br nc1 np nr2) ∧ Kp B w wc ∧ nr2.es = cr ∧ nr2.cs = kr ∧ nr2.keys = 15 + z ∧ wc.heap[pm]? = some (midObj mid)) := ⟨hI, hK, e1, e2, e3, e4⟩
                have nC := hI.node bc nc1 (u3_a D)
                have nR := hI.node br nr2 u3_c
                obtain ⟨kc, hkc⟩ : ∃ kc, kc = nc.keys := ⟨_, rfl⟩
                have c3 : wc.cell? ⟨bc, 3, none⟩ = some (.int .i64 kc) := by rw [nC.cells.2.2.2, T3.out.2.2.2.2.2.1, hkc]
                have r3 : wc.cell? ⟨br, 3, none⟩ = some (.int .i64 (15 + z)) := by rw [nR.cells.2.2.2, e3]
                have f3 := nC.free 3
                rw [← hkc] at hk0 hk1
                have hw1 : IntKind.i64.wrap (1 + (15 + z)) = 1 + (15 + z) := IntWalk.i64_in _ (by omega)
                have hw2 : IntKind.i64.wrap (kc - (1 + (15 + z))) = kc - (1 + (15 + z)) := IntWalk.i64_in _ (by omega)
                obtain ⟨hI5, hK5⟩ := hI.setKeys (u3_a D) (kc - (1 + (15 + z)))
                rw [u3_ua D] at hI5
                have HF := (show Hid (_ ∧ _ ∧ _) from ⟨hI5.drew, (hK.trans hK5).trans (Kp.drew B _), (heap_setCell_not (w := wc) (j := 3) (.int .i64 (kc - (1 + (15 + z)))) hpmbc).trans e4⟩)
                have HKC : Hid (kc = nc.keys) := hkc
                have hbrc : ¬ br = bc := fun e => D.ac e.symm
                clear hcut hI hK e1 e2 e3 e4 nC nR hI5 hK5 hkc HRC
                go_upto_region 8 with fail
                apply wp_region_one
                case h =>
                  go_region_law (fail)
                  all_goals exact ⟨rfl, rfl⟩
                case k =>
                  go_wp2_with fail
                  go_meet
                  exact ⟨_, nr2, HF.out.1, HF.out.2.1, T3.out.2.2.1, T3.out.2.2.2.1, T4.out.2.2.1, .inr ⟨kl, kr, HK.out.1, HK.out.2.1, HK.out.2.2.1, T3.out.2.2.2.2.1, T4.out.2.2.2.1, by rw [T4.out.2.2.2.2.1, HZ.out], by show kc - (1 + (15 + z)) = _; rw [HKC.out, HZ.out]⟩, HF.out.2.2⟩
      case rest =>
        obtain ⟨nc1, nr1, hI, hK, e1, e2, e3, e4, e5⟩ := hcut.out
        have T2 : Hid (Inv B wc (u3 σ bc bp br nc1 np nr1) ∧ Kp B w wc ∧ nc1.es = nc.es ∧ nc1.ve = nc.ve ∧ nr1.es = cr ∧ Spk σ nc nc1 nr1 ∧ wc.heap[pm]? = some (midObj mid)) := ⟨hI, hK, e1, e2, e3, e4, e5⟩
        clear hBc
        have hBc : B ≤ wc.heap.size := Nat.le_trans hB hK.size
        have nC := hI.node bc nc1 (u3_a D)
        have hv1 : nc1.ve = .slice (some ⟨gc, 0, none⟩) 31 capc ∧ 31 = nc1.es.length := ⟨by rw [e2]; exact HVC.out.1, by rw [e1]; exact HVC.out.2⟩
        have c1 : wc.cell? ⟨bc, 1, none⟩ = some (.slice (some ⟨gc, 0, none⟩) 31 capc) := by rw [nC.cells.2.1, hv1.1]
        have f1 := nC.free 1
        have hcall := cutE_kp hI (u3_a D) hBc hv1 15 (by omega)
        have HC := (show Hid _ from hcall)
        have hpmbc : pm ≠ bc := fun e => by rw [e, nC.hd] at e5; simp [midObj] at e5
        have hpmgc : pm ≠ gc := by have := HGC.out; omega
        clear hcut hI hK e1 e2 e3 e4 e5 T nC hv1 hcall
        go_upto_region 9 with fail
        go_cut [] from 10 to 91 (fun wx => Hid (∃ nc2, Inv B wx (u3 σ bc bp br nc2 np nr1) ∧ Kp B w wx ∧ nc2.es = cl ∧ nc2.cs = nc1.cs ∧ nc2.keys = nc1.keys ∧ wx.heap[pm]? = some (midObj mid)))
        case first =>
          go_wp2_with fail
          refine Calls.mono HC.out ?_
          rintro e wf ⟨rfl, hput, hkeep⟩
          have z := hput.2.2 bc nc1 1 (u3_a D)
          rw [c1, f1] at z
          have y1 := z.1
          have y2 := z.2
          have HPUT := (show Hid (_ ∧ _) from ⟨hput, hkeep⟩)
          clear z hput hkeep HC c1 f1
          go_wp2_with fail
          go_meet
          obtain ⟨⟨hp1, hp2, -⟩, hkeep⟩ := HPUT.out
          rw [u3_ua D] at hp1
          refine ⟨_, hp1, T2.out.2.1.trans hp2, ?_, rfl, rfl, ?_⟩
          · show nc1.es.take 15 = cl
            rw [T2.out.2.2.1, HP.out.1, ← HP.out.2.1]; simp
          · exact (hkeep pm (heap_lt T2.out.2.2.2.2.2.2) hpmbc hpmgc).trans T2.out.2.2.2.2.2.2
        case rest =>
          obtain ⟨nc2, hI, hK, e1, e2, e3, e4⟩ := hcut.out
          have T3 : Hid (Inv B wc (u3 σ bc bp br nc2 np nr1) ∧ Kp B w wc ∧ nc2.es = cl ∧ nc2.cs = nc1.cs ∧ nc2.keys = nc1.keys ∧ wc.heap[pm]? = some (midObj mid)) := ⟨hI, hK, e1, e2, e3, e4⟩
          have TS : Hid (nr1.es = cr ∧ Spk σ nc nc1 nr1) := ⟨T2.out.2.2.2.2.1, T2.out.2.2.2.2.2.1⟩
          clear hBc
          have hBc : B ≤ wc.heap.size := Nat.le_trans hB hK.size
          have nP := hI.node bp np (u3_b D)
          obtain ⟨ap, capp, hvp⟩ := ownsRow_shape nP.ents
          rw [HP.out.2.2.2.2.1] at hvp
          have p1 : wc.cell? ⟨bp, 1, none⟩ = some (.slice ap i capp) := by rw [nP.cells.2.1, hvp]
          have m0 : wc.cell? ⟨pm, 0, none⟩ = some (.int .u64 mid.k) := by rw [cell_of_row wc pm 0 _ 64 (0, 0) e4]; rfl
          have m1 : wc.cell? ⟨pm, 1, none⟩ = some (.int .u64 mid.c) := by rw [cell_of_row wc pm 1 _ 64 (0, 0) e4]; rfl
          have m2 : wc.cell? ⟨pm, 2, none⟩ = some (.int .u64 mid.s) := by rw [cell_of_row wc pm 2 _ 64 (0, 0) e4]; rfl
          have m3 : wc.cell? ⟨pm, 3, none⟩ = some .nilIface := by rw [cell_of_row wc pm 3 _ 64 (0, 0) e4]; rfl
          have ltp : bp < wc.heap.size := heap_lt nP.hd
          have ltm : pm < wc.heap.size := heap_lt e4
          have f1 := alloc_frozen (midObj mid) ltp (nP.free 1)
          have a1 := alloc_cell (midObj mid) p1
          have hcall := insEndE_st (hI.drew.alloc (midObj mid)) (u3_b D) (by simp; omega) ⟨hvp, HP.out.2.2.2.2.1.symm⟩ (by omega) mid wc.heap.size (alloc_new wc _)
          have HC := (show Hid _ from hcall)
          have HA := (show Hid (_ ∧ _) from ⟨f1, a1⟩)
          clear hcut hI hK e1 e2 e3 e4 T2 nP hvp hcall f1 a1
          go_upto_region 10 with fail
          go_cut [] from 10 to 102 (fun wx => Hid (∃ np1, Inv B wx (u3 σ bc bp br nc2 np1 nr1) ∧ Kp B w wx ∧ np1.es = np.es ++ [mid] ∧ np1.cs = np.cs ∧ np1.keys = np.keys))
          case first =>
            go_region_with (go_at_call 39; refine Calls.mono HC.out ?_; rintro e wf ⟨g', cap', rfl, hput⟩; have z := hput.2.2 bp np 1 (u3_b D); rw [HA.out.1, HA.out.2] at z; have y1 := z.1; have y2 := z.2; have HPUT := (show Hid _ from hput); clear z hput)
            all_goals
              go_wp2_with fail
              go_meet
              obtain ⟨hp1, hp2, -⟩ := HPUT.out
              rw [u3_ub D] at hp1
              exact ⟨_, hp1, ((T3.out.2.1.trans (Kp.drew B _)).trans (Kp.alloc (by exact hBc) _)).trans hp2, rfl, rfl, rfl⟩
          case rest =>
            obtain ⟨np1, hI, hK, e1, e2, e3⟩ := hcut.out
            have T4 : Hid (Inv B wc (u3 σ bc bp br nc2 np1 nr1) ∧ Kp B w wc ∧ np1.es = np.es ++ [mid] ∧ np1.cs = np.cs ∧ np1.keys = np.keys) := ⟨hI, hK, e1, e2, e3⟩
            clear hBc
            have hBc : B ≤ wc.heap.size := Nat.le_trans hB hK.size
            have nP := hI.node bp np1 (u3_b D)
            have hcl : np1.cs.length = i + 1 := by rw [e2, HP.out.2.2.2.1]; simp; exact HP.out.2.2.2.2.2
            obtain ⟨gk2, lk2, capk2, HVK2, hlk02, hlk12, p2, -, -⟩ := nP.rowC (by omega)
            have hlk : lk2 = i + 1 := by rw [HVK2.out.2]; exact hcl
            subst hlk
            have f2 := alloc_frozen0 (.cells #[.pointer (some ⟨br, 0, none⟩)] 29) (heap_lt nP.hd) (nP.free 2)
            have a2 := alloc_cell0 (.cells #[.pointer (some ⟨br, 0, none⟩)] 29) p2
            have ltp : bp < wc.heap.size := heap_lt nP.hd
            have hcall := insEndC_st (hI.alloc (.cells #[.pointer (some ⟨br, 0, none⟩)] 29)) (u3_b D) (by simp; omega) ⟨HVK2.out.1, hcl.symm⟩ (by omega) br wc.heap.size (alloc_new0 wc _)
            rw [show (((i + 1 : Nat) : Int)) = (i : Int) + 1 by omega] at hcall
            have HC := (show Hid _ from hcall)
            have HA := (show Hid (_ ∧ _) from ⟨f2, a2⟩)
            clear hcut hI hK e1 e2 e3 nP hcl hcall f2 a2
            go_wp2_with fail
            refine Calls.mono HC.out ?_
            rintro e wf ⟨g', cap', rfl, hput⟩
            have z := hput.2.2 bp np1 2 (u3_b D)
            rw [HA.out.1, HA.out.2] at z
            have y1 := z.1
            have y2 := z.2
            have HPUT := (show Hid _ from hput)
            clear z hput HC HA
            go_wp2_with fail
            go_end0
            obtain ⟨hp1, hp2, -⟩ := HPUT.out
            rw [u3_ub D] at hp1
            refine ⟨rfl, br, nc2, _, nr1, hbr, hp1, (T4.out.2.1.trans (Kp.alloc hBc _)).trans hp2, T3.out.2.2.1, TS.out.1, T4.out.2.2.1, by show np1.cs ++ [br] = _; rw [T4.out.2.2.2.1], T4.out.2.2.2.2, ?_⟩
            rcases TS.out.2 with ⟨v1, v2, v3, v4, v5⟩ | ⟨kl, kr, v1, v2, v3, v4, v5, v6, v7⟩
            · exact .inl ⟨v1, by rw [T3.out.2.2.2.1]; exact v2, v3, by rw [T3.out.2.2.2.2.1]; exact v4, v5⟩
            · exact .inr ⟨kl, kr, v1, v2, v3, by rw [T3.out.2.2.2.1]; exact v4, v5, v6, by rw [T3.out.2.2.2.2.1]; exact v7⟩
end Go.Proofs.Qxb6613550a
