/-
  Map.Set of a key greater than all: the walk.
-/
import Derived.Test.Qxb6613550aSetP
import Derived.Test.Qxb6613550aSetQ
import Derived.Test.Qxb6613550aPath
import Derived.Deep.RegionHeldLaw
import Derived.Deep.CutRange
namespace Go.Proofs.Qxb6613550a
open Go.RowKit
set_option linter.unusedVariables false

theorem set_twice (cur : Array Value) (i : Nat) (u v : Value) : (cur.setIfInBounds i u).setIfInBounds i v = cur.setIfInBounds i v := by
  apply Array.ext_getElem?
  intro j
  simp only [Array.getElem?_setIfInBounds, Array.size_setIfInBounds]
  split <;> rfl

/-- What a Map's root leads to: nothing yet, or a tree of the contents L. -/
def St (σ : Sto) (cur : Array Value) (L : List Ent) : Prop :=
  (cur[0]? = some (.pointer none) ∧ L = []) ∨ ∃ h b, cur[0]? = some (.pointer (some ⟨b, 0, none⟩)) ∧ Tree σ h b ∧ cont σ h b = L

/-- The state at the loop's head, the first time. -/
def Pre0 (B S : Nat) (w : World) (cur : Array Value) (L : List Ent) (c s : Int) (b1 : Nat) (wx : World) : Prop :=
  ∃ σ1 h1, Inv B wx σ1 ∧ KpS B S w wx ∧ wx.heap[S]? = some (.cells (cur.setIfInBounds 0 (.pointer (some ⟨b1, 0, none⟩))) 36 (0, 0)) ∧ WF σ1 h1 b1 ∧ (foot σ1 h1 b1).Nodup ∧ cont σ1 h1 b1 = L ∧ nE σ1 b1 < 31 ∧ (0 < h1 → 0 < nE σ1 b1) ∧
    wx.heap[w.heap.size]? = some (.cells #[.int .u64 c, .int .u64 s, .nilIface] 47 (0, 0))

/-- The state at the loop's head. -/
structure Rw (B S : Nat) (w : World) (cur : Array Value) (L : List Ent) (c s : Int) (h1 b1 pb : Nat) (wr : World) (g b' : Nat) (ps : List Nat) (σr : Sto) : Prop where
  inv : Inv B wr σr
  kp : KpS B S w wr
  hS : wr.heap[S]? = some (.cells (cur.setIfInBounds 0 (.pointer (some ⟨b1, 0, none⟩))) 36 (0, 0))
  hV : wr.heap[w.heap.size]? = some (.cells #[.int .u64 c, .int .u64 s, .nilIface] 47 (0, 0))
  path : wr.heap[pb]? = some (.cells (pathBlk ps) 82 (0, 0))
  rp : RP σr h1 b1 ps g b'
  wf : WF σr h1 b1
  nodup : (foot σr h1 b1).Nodup
  ct : cont σr h1 b1 = L
  few : nE σr b' < 31
  top : 0 < h1 → 0 < nE σr b1

/-- .. when the child to go down to has been chosen. -/
structure Rx (B S : Nat) (w : World) (cur : Array Value) (L : List Ent) (c s : Int) (h1 b1 pb : Nat) (wr : World) (g b' c' r' : Nat) (ps : List Nat) (σr : Sto) : Prop where
  inv : Inv B wr σr
  kp : KpS B S w wr
  hS : wr.heap[S]? = some (.cells (cur.setIfInBounds 0 (.pointer (some ⟨b1, 0, none⟩))) 36 (0, 0))
  hV : wr.heap[w.heap.size]? = some (.cells #[.int .u64 c, .int .u64 s, .nilIface] 47 (0, 0))
  path : wr.heap[pb]? = some (.cells (pathBlk ps) 82 (0, 0))
  rp : RP σr h1 b1 (ps ++ [b']) g c'
  wf : WF σr h1 b1
  nodup : (foot σr h1 b1).Nodup
  ct : cont σr h1 b1 = L
  few : nE σr c' < 31
  top : 0 < h1 → 0 < nE σr b1
  nod : ∃ nd2 a2, σr b' = some nd2 ∧ nd2.cs = a2 ++ [c'] ∧ a2.length = r'

theorem KpS.newSet {B S pb j : Nat} {w wr : World} (h : KpS B S w wr) (hp : w.heap.size ≤ pb) (hB : B ≤ w.heap.size) (v : Value) : KpS B S w (wr.setCell ⟨pb, j, none⟩ v) :=
  ⟨h.bel.setCell (p := ⟨pb, j, none⟩) (Nat.le_trans hB hp) v, fun k o hk h1 h2 => by
    have hl := heap_lt h1
    rw [heap_setCell_not v (by omega)]; exact h.oth k o hk h1 h2⟩

set_option maxHeartbeats 6400000 in
set_option maxRecDepth 100000 in
theorem set_any (B S : Nat) (σ : Sto) (k c s n : Int) (cur : Array Value) (L : List Ent) (w : World) (hI : Inv B w σ) (hB : B ≤ w.heap.size) (hst : St σ cur L) (hsrt : Srt L) (hlt : Lt L k) (hlen : L.length ≤ 4990)
    (hS : w.heap[S]? = some (.cells cur 36 (0, 0))) (hBS : B ≤ S) (h1 : cur[1]? = some (.int .i64 n)) (h2 : cur[2]? = some (.int .u64 0)) (hn0 : 0 ≤ n) (hn1 : n ≤ 100000) :
    Calls Try.prog 32 #[.pointer (some ⟨S, 0, none⟩), .int .u64 k, .agg #[.int .u64 c, .int .u64 s, .nilIface]] w fun e w' => e = .returned (.tuple #[]) ∧ ∃ σ' h' b', Inv B w' σ' ∧ Tree σ' h' b' ∧ cont σ' h' b' = L ++ [⟨k, c, s⟩] ∧ KpS B S w w' ∧
      w'.heap[S]? = some (.cells ((cur.setIfInBounds 0 (.pointer (some ⟨b', 0, none⟩))).setIfInBounds 1 (.int .i64 (n + 1))) 36 (0, 0)) := by
  have ltS : S < w.heap.size := heap_lt hS
  have HALL : Hid (Inv B w σ ∧ St σ cur L ∧ Srt L ∧ Lt L k ∧ L.length ≤ 4990 ∧ w.heap[S]? = some (.cells cur 36 (0, 0)) ∧ cur[1]? = some (.int .i64 n) ∧ cur[2]? = some (.int .u64 0)) := ⟨hI, hst, hsrt, hlt, hlen, hS, h1, h2⟩
  clear hI hst hsrt hlt hlen hS h1 h2
  obtain ⟨nb, HNB⟩ : ∃ nb : Bool, Hid ((nb = true ∧ cur[0]? = some (.pointer none) ∧ L = []) ∨ (nb = false ∧ ∃ h b, cur[0]? = some (.pointer (some ⟨b, 0, none⟩)) ∧ Tree σ h b ∧ cont σ h b = L)) := by
    rcases HALL.out.2.1 with ⟨q1, q2⟩ | q
    · exact ⟨true, .inl ⟨rfl, q1, q2⟩⟩
    · exact ⟨false, .inr ⟨rfl, q⟩⟩
  go_enter Try.func32, Try.ntmps32
  go_upto_region 1 with fail
  have H0 : Hid (Inv B (w.alloc (.cells #[.int .u64 c, .int .u64 s, .nilIface] 47)) σ ∧ Kp B w (w.alloc (.cells #[.int .u64 c, .int .u64 s, .nilIface] 47)) ∧ (w.alloc (.cells #[.int .u64 c, .int .u64 s, .nilIface] 47)).heap[S]? = some (.cells cur 36 (0, 0)) ∧ (w.alloc (.cells #[.int .u64 c, .int .u64 s, .nilIface] 47)).heap[w.heap.size]? = some (.cells #[.int .u64 c, .int .u64 s, .nilIface] 47 (0, 0))) :=
    ⟨HALL.out.1.alloc _, Kp.alloc hB _, by rw [Below.heap_alloc w _ S ltS]; exact HALL.out.2.2.2.2.2.1, alloc_new0 w _⟩
  generalize w.alloc (.cells #[.int .u64 c, .int .u64 s, .nilIface] 47) = W0 at H0 ⊢
  have hneS : w.heap.size ≠ S := by omega
  have hB0 : B ≤ W0.heap.size := Nat.le_trans hB H0.out.2.1.size
  go_cut [18] from 14 to 18 (fun b wx => b = .bool nb ∧ wx = W0)
  case first =>
    rcases HNB.out with ⟨rfl, q, -⟩ | ⟨rfl, h, b, q, -⟩
    · have s0 : W0.cell? ⟨S, 0, none⟩ = some (.pointer none) := by rw [cell_of_row W0 S 0 cur 36 (0, 0) H0.out.2.2.1]; exact q
      clear q
      go_wp2_with fail
      go_meet
      exact ⟨rfl, rfl⟩
    · have s0 : W0.cell? ⟨S, 0, none⟩ = some (.pointer (some ⟨b, 0, none⟩)) := by rw [cell_of_row W0 S 0 cur 36 (0, 0) H0.out.2.2.1]; exact q
      clear q
      go_wp2_with fail
      go_meet
      exact ⟨rfl, rfl⟩
  case rest =>
    obtain ⟨hb18, hwc⟩ := hcut
    subst hb18
    subst wc
    go_upto_if 18 with fail
    go_cut [] from 14 to 27 (fun wx => Hid (∃ σ1 h1 b1, Inv B wx σ1 ∧ KpS B S w wx ∧ wx.heap[S]? = some (.cells (cur.setIfInBounds 0 (.pointer (some ⟨b1, 0, none⟩))) 36 (0, 0)) ∧ Tree σ1 h1 b1 ∧ cont σ1 h1 b1 = L ∧ wx.heap[w.heap.size]? = some (.cells #[.int .u64 c, .int .u64 s, .nilIface] 47 (0, 0))))
    case first =>
      rcases HNB.out with ⟨rfl, q, hL⟩ | ⟨rfl, h, b, q, hT, hL⟩
      · have s2 : W0.cell? ⟨S, 2, none⟩ = some (.int .u64 0) := by rw [cell_of_row W0 S 2 cur 36 (0, 0) H0.out.2.2.1]; exact HALL.out.2.2.2.2.2.2.2
        have s0 : W0.cell? ⟨S, 0, none⟩ = some (.pointer none) := by rw [cell_of_row W0 S 0 cur 36 (0, 0) H0.out.2.2.1]; exact q
        have f0 : W0.frozen? ⟨S, 0, none⟩ = false := by simp [World.frozen?, H0.out.2.2.1]
        have lt0 : S < W0.heap.size := heap_lt H0.out.2.2.1
        have HQ : Hid (L = []) := hL
        clear q hL
        go_wp2_with fail
        go_meet
        obtain ⟨o, ho⟩ : ∃ o, o = Obj.cells #[.int .u64 0, .slice none 0 0, .slice none 0 0, .int .i64 0] 67 := ⟨_, rfl⟩
        rw [← ho]
        obtain ⟨W1, hW1⟩ : ∃ W1, W1 = W0.setCell ⟨S, 0, none⟩ (.pointer (some ⟨W0.heap.size, 0, none⟩)) := ⟨_, rfl⟩
        rw [← hW1]
        have hsz : W1.heap.size = W0.heap.size := by rw [hW1]; exact size_setCell _ _ _
        have hI1 : Inv B W1 σ := by rw [hW1]; exact H0.out.1.setOth _ H0.out.2.2.1 (by decide)
        have hS1 : W1.heap[S]? = some (.cells (cur.setIfInBounds 0 (.pointer (some ⟨W0.heap.size, 0, none⟩))) 36 (0, 0)) := by rw [hW1]; exact heap_setCell_at _ H0.out.2.2.1
        have hV1 : W1.heap[w.heap.size]? = some (.cells #[.int .u64 c, .int .u64 s, .nilIface] 47 (0, 0)) := by rw [hW1, heap_setCell_not _ hneS]; exact H0.out.2.2.2
        have hK1 : KpS B S w W1 := by rw [hW1]; exact (KpS.of H0.out.2.1).trans (KpS.setCell _ hBS)
        have hnode : NodeAt B (W1.alloc o) W0.heap.size ⟨.slice none 0 0, .slice none 0 0, [], [], 0⟩ :=
          ⟨hB0, by rw [ho, ← hsz]; exact alloc_new0 W1 _, ⟨rfl, .inl ⟨rfl, rfl⟩⟩, ⟨rfl, .inl ⟨rfl, rfl⟩⟩, fun _ => rfl, by simp, by simp⟩
        have hI2 := hI1.new (b := W0.heap.size) (fun kk hk => Below.heap_alloc W1 o kk hk) (by omega) hnode (fun g hg => by simp [Value.ownBlock] at hg) (fun g hg => by simp [Value.ownBlock] at hg)
        refine ⟨_, 0, W0.heap.size, hI2, hK1.trans (KpS.of (Kp.alloc (by omega) _)), by rw [Below.heap_alloc W1 o S (heap_lt hS1)]; exact hS1, ⟨⟨_, upd_same _ _ _, rfl, by simp, rfl⟩, by simp [foot], by simp [cont, ents_of (upd_same _ _ _), Srt], fun h => by omega⟩, ?_, by rw [Below.heap_alloc W1 o _ (heap_lt hV1)]; exact hV1⟩
        rw [HQ.out]; simp [cont, ents_of (upd_same _ _ _)]
      · have HQ : Hid (cur[0]? = some (.pointer (some ⟨b, 0, none⟩)) ∧ Tree σ h b ∧ cont σ h b = L) := ⟨q, hT, hL⟩
        clear q hT hL
        go_wp2_with fail
        go_meet
        refine ⟨σ, h, b, H0.out.1, KpS.of H0.out.2.1, by rw [set_same HQ.out.1]; exact H0.out.2.2.1, HQ.out.2.1, HQ.out.2.2, H0.out.2.2.2⟩
    case rest =>
      obtain ⟨σ1, h1, b1, hI1, hK1, hS1, hT1, hL1, hV1⟩ := hcut.out
      have T : Hid (Inv B wc σ1 ∧ KpS B S w wc ∧ wc.heap[S]? = some (.cells (cur.setIfInBounds 0 (.pointer (some ⟨b1, 0, none⟩))) 36 (0, 0)) ∧ Tree σ1 h1 b1 ∧ cont σ1 h1 b1 = L ∧ wc.heap[w.heap.size]? = some (.cells #[.int .u64 c, .int .u64 s, .nilIface] 47 (0, 0))) := ⟨hI1, hK1, hS1, hT1, hL1, hV1⟩
      have hBc : B ≤ wc.heap.size := Nat.le_trans hB hK1.bel.size
      obtain ⟨n1, hn1b, h31, hlf1, -⟩ := hT1.wf.get
      have HN1 : Hid (σ1 b1 = some n1 ∧ (n1.cs = [] ↔ h1 = 0)) := ⟨hn1b, hlf1⟩
      have s0 : wc.cell? ⟨S, 0, none⟩ = some (.pointer (some ⟨b1, 0, none⟩)) := by
        rw [cell_of_row wc S 0 _ 36 (0, 0) hS1, Array.getElem?_setIfInBounds, if_pos rfl]
        have hz := (Array.getElem?_eq_some_iff.1 HALL.out.2.2.2.2.2.2.1).1
        rw [if_pos (by omega)]
      have s2 : wc.cell? ⟨S, 2, none⟩ = some (.int .u64 0) := by
        rw [cell_of_row wc S 2 _ 36 (0, 0) hS1, Array.getElem?_setIfInBounds, if_neg (by decide)]; exact HALL.out.2.2.2.2.2.2.2
      have hown := own_any B S b1 n1 ⟨S, 0, none⟩ wc (hI1.node b1 n1 hn1b) s2 s0
      have HOWN := (show Hid _ from hown)
      clear hcut hI1 hK1 hS1 hT1 hL1 hV1 hn1b hlf1 hown H0 HNB
      go_wp2_with fail
      refine Calls.mono HOWN.out ?_
      rintro e wz ⟨rfl, n0, hwz⟩
      have T2 : Hid (Inv B wz σ1 ∧ KpS B S w wz ∧ wz.heap[S]? = some (.cells (cur.setIfInBounds 0 (.pointer (some ⟨b1, 0, none⟩))) 36 (0, 0)) ∧ Tree σ1 h1 b1 ∧ cont σ1 h1 b1 = L ∧ wz.heap[w.heap.size]? = some (.cells #[.int .u64 c, .int .u64 s, .nilIface] 47 (0, 0))) := by
        obtain ⟨q1, q2, q3, q4, q5, q6⟩ := T.out
        rw [hwz]
        exact ⟨q1.drewN n0, q2.trans (KpS.of (Kp.drewN B wc n0)), q3, q4, q5, q6⟩
      have s2z : wz.cell? ⟨S, 2, none⟩ = some (.int .u64 0) := by rw [hwz]; exact s2
      have s0z : wz.cell? ⟨S, 0, none⟩ = some (.pointer (some ⟨b1, 0, none⟩)) := by rw [hwz]; exact s0
      clear hwz T HOWN s0 s2 hBc
      have hBz : B ≤ wz.heap.size := Nat.le_trans hB T2.out.2.1.bel.size
      have nN := T2.out.1.node b1 n1 HN1.out.1
      obtain ⟨a1, cap1, hv1⟩ := ownsRow_shape nN.ents
      obtain ⟨l1, hl1⟩ : ∃ l1, l1 = n1.es.length := ⟨_, rfl⟩
      rw [← hl1] at hv1 h31
      have e1 : wz.cell? ⟨b1, 1, none⟩ = some (.slice a1 l1 cap1) := by rw [nN.cells.2.1, hv1]
      have HL1 : Hid (l1 = n1.es.length) := hl1
      clear hv1 hl1 nN
      go_upto_if 38 with fail
      go_cut [6] from 14 to 55 (fun s6 wx => ∃ b2 : Nat, s6 = .pointer (some ⟨b2, 0, none⟩) ∧ Hid (Pre0 B S w cur L c s b2 wx))
      case first =>
        by_cases hf : l1 = 31
        · subst hf
          have nN := T2.out.1.node b1 n1 HN1.out.1
          obtain ⟨z, hz⟩ : ∃ z, z = n1.size := ⟨_, rfl⟩
          have HZ : Hid (z = n1.size) := hz
          have nM1 : NodeAt B wz.drew b1 n1 := nN.keep rfl (fun _ _ => rfl) (fun _ _ => rfl)
          have nM2 : NodeAt B (wz.drew.alloc (.cells #[.pointer (some ⟨b1, 0, none⟩)] 29)) b1 n1 := (T2.out.1.drew.alloc _).node b1 n1 HN1.out.1
          have lt1 : b1 < wz.heap.size := heap_lt nN.hd
          have ltSz : S < wz.heap.size := heap_lt T2.out.2.2.1
          have hfb : ((31 : Nat) : Int) = 31 := rfl
          clear hz nN
          go_upto_region 5 with fail
          go_cut [6] from 14 to 48 (fun s6 wx => ∃ b2 : Nat, s6 = .pointer (some ⟨b2, 0, none⟩) ∧ Hid (∃ n2 : ND, wz.heap.size ≤ b2 ∧ Inv B wx (upd σ1 b2 n2) ∧ Kp B wz wx ∧ n2.es = [] ∧ n2.cs = [b1] ∧ n2.keys = z))
          case first =>
            apply wp_region_one
            case h =>
              go_region_with (go_at_call 33; first | (refine (size_any B b1 n1 wz.drew nM1).mono ?_; rintro e w' ⟨rfl, hw⟩; subst w'; rw [← HZ.out]) | (refine (size_any B b1 n1 _ nM2).mono ?_; rintro e w' ⟨rfl, hw⟩; subst w'; rw [← HZ.out]))
              all_goals exact ⟨rfl, rfl⟩
            case k =>
              go_wp2_with fail
              go_meet
              obtain ⟨C, hC⟩ : ∃ C, C = Obj.cells #[.pointer (some ⟨b1, 0, none⟩)] 29 := ⟨_, rfl⟩
              obtain ⟨N, hN⟩ : ∃ N, N = Obj.cells #[.int .u64 0, .slice none 0 0, .slice (some ⟨wz.heap.size, 0, none⟩) 1 1, .int .i64 z] 67 := ⟨_, rfl⟩
              rw [← hC, ← hN]
              have hs1 : (wz.alloc C).heap.size = wz.heap.size + 1 := by simp
              have hh1 : ((wz.alloc C).alloc N).drew.heap[wz.heap.size]? = some C := by
                show ((wz.alloc C).alloc N).heap[wz.heap.size]? = some C
                rw [Below.heap_alloc (wz.alloc C) N _ (by omega)]; exact alloc_new0 wz C
              have hh2 : ((wz.alloc C).alloc N).drew.heap[wz.heap.size + 1]? = some N := by
                show ((wz.alloc C).alloc N).heap[wz.heap.size + 1]? = some N
                rw [← hs1]; exact alloc_new0 (wz.alloc C) N
              have hkk : ∀ kk, kk < wz.heap.size → ((wz.alloc C).alloc N).drew.heap[kk]? = wz.heap[kk]? := fun kk hk => by
                show ((wz.alloc C).alloc N).heap[kk]? = _
                rw [Below.heap_alloc (wz.alloc C) N _ (by omega), Below.heap_alloc wz C _ hk]
              have hnode : NodeAt B ((wz.alloc C).alloc N).drew (wz.heap.size + 1) ⟨.slice none 0 0, .slice (some ⟨wz.heap.size, 0, none⟩) 1 1, [], [b1], z⟩ :=
                ⟨by omega, by rw [hh2, hN]; rfl, ⟨rfl, .inl ⟨rfl, rfl⟩⟩, ownsRow_mk _ hBz (by rw [hh1, hC]) (by omega) (by unfold maxLen; omega) (by rfl) (by rfl), fun e => by simp at e, by simp, by simp⟩
              exact ⟨wz.heap.size + 1, rfl, _, by omega, T2.out.1.new hkk (by omega) hnode (fun g hg => by simp [Value.ownBlock] at hg) (fun g hg => by simp [Value.ownBlock] at hg; omega), Kp.of_below ⟨rfl, rfl, rfl, by show wz.heap.size ≤ ((wz.alloc C).alloc N).heap.size; simp; omega, hkk⟩ hBz, rfl, rfl, rfl⟩
          case rest =>
            obtain ⟨b2, rfl, hcut⟩ := hcut
            obtain ⟨n2, hb2, hI2, hK2, e2, e3, e4⟩ := hcut.out
            have hS2 : wc.heap[S]? = some (.cells (cur.setIfInBounds 0 (.pointer (some ⟨b1, 0, none⟩))) 36 (0, 0)) := hK2.cell T2.out.2.2.1 (by decide)
            have hV2 : wc.heap[w.heap.size]? = some (.cells #[.int .u64 c, .int .u64 s, .nilIface] 47 (0, 0)) := hK2.cell T2.out.2.2.2.2.2 (by decide)
            have hS6 := heap_setCell_at (j := 0) (.pointer (some ⟨b2, 0, none⟩)) hS2
            rw [set_twice] at hS6
            have hI6 := hI2.setOth (j := 0) (.pointer (some ⟨b2, 0, none⟩)) hS2 (by decide)
            have hV6 : (wc.setCell ⟨S, 0, none⟩ (.pointer (some ⟨b2, 0, none⟩))).heap[w.heap.size]? = some (.cells #[.int .u64 c, .int .u64 s, .nilIface] 47 (0, 0)) := by rw [heap_setCell_not _ hneS]; exact hV2
            have hK6 : KpS B S w (wc.setCell ⟨S, 0, none⟩ (.pointer (some ⟨b2, 0, none⟩))) := (T2.out.2.1.trans (KpS.of hK2)).trans (KpS.setCell _ hBS)
            have H6 : Hid (Inv B (wc.setCell ⟨S, 0, none⟩ (.pointer (some ⟨b2, 0, none⟩))) (upd σ1 b2 n2) ∧ (wc.setCell ⟨S, 0, none⟩ (.pointer (some ⟨b2, 0, none⟩))).heap[S]? = some (.cells (cur.setIfInBounds 0 (.pointer (some ⟨b2, 0, none⟩))) 36 (0, 0)) ∧ (wc.setCell ⟨S, 0, none⟩ (.pointer (some ⟨b2, 0, none⟩))).heap[w.heap.size]? = some (.cells #[.int .u64 c, .int .u64 s, .nilIface] 47 (0, 0)) ∧ KpS B S w (wc.setCell ⟨S, 0, none⟩ (.pointer (some ⟨b2, 0, none⟩))) ∧ n2.es = [] ∧ n2.cs = [b1] ∧ n2.keys = z) := ⟨hI6, hS6, hV6, hK6, e2, e3, e4⟩
            have s0c : wc.cell? ⟨S, 0, none⟩ = some (.pointer (some ⟨b1, 0, none⟩)) := by
              rw [cell_of_row wc S 0 _ 36 (0, 0) hS2, Array.getElem?_setIfInBounds, if_pos rfl]
              have hzz := (Array.getElem?_eq_some_iff.1 HALL.out.2.2.2.2.2.2.1).1
              rw [if_pos (by omega)]
            have f0c : wc.frozen? ⟨S, 0, none⟩ = false := by simp [World.frozen?, hS2]
            clear hcut hI2 hK2 e2 e3 e4 hS2 hV2 hS6 hI6 hV6 hK6 nM1 nM2 s0z s2z e1
            go_upto_region 7 with fail
            generalize wc.setCell ⟨S, 0, none⟩ (.pointer (some ⟨b2, 0, none⟩)) = W6 at H6 ⊢
            clear s0c f0c
            obtain ⟨k1, k2, k3, k4, k5, k6, k7⟩ := H6.out
            have hnone : σ1 b2 = none := by
              rcases hq : σ1 b2 with _ | nq
              · rfl
              · have := T2.out.1.lt hq; omega
            have h31e : n1.es.length = 31 := HL1.out.symm
            obtain ⟨r1, r2, r3, r4⟩ := rootUp T2.out.2.2.2.1.wf T2.out.2.2.2.1.nodup HN1.out.1 h31e hnone k5 k6 (by rw [k7, HZ.out])
            have hb1 : upd σ1 b2 n2 b1 = some n1 := by rw [upd_other _ _ _ _ r4]; exact HN1.out.1
            obtain ⟨cl, mid, cr, hes, hc1, hc2⟩ : ∃ cl mid cr, n1.es = cl ++ mid :: cr ∧ cl.length = 15 ∧ cr.length = 15 :=
              ⟨n1.es.take 15, n1.es[15]'(by omega), n1.es.drop 16, by rw [← List.drop_eq_getElem_cons, List.take_append_drop], by rw [List.length_take]; omega, by rw [List.length_drop]; omega⟩
            have hB6 : B ≤ W6.heap.size := Nat.le_trans hB k4.bel.size
            have hlen5 : (cont (upd σ1 b2 n2) (h1 + 1) b2).length ≤ 5000 := by rw [r2, T2.out.2.2.2.2.1]; have := HALL.out.2.2.2.2.1; omega
            have h2' : (cur.setIfInBounds 0 (.pointer (some ⟨b2, 0, none⟩)))[2]? = some (.int .u64 0) := by rw [Array.getElem?_setIfInBounds, if_neg (by decide)]; exact HALL.out.2.2.2.2.2.2.2
            have hsp := split_any B S b2 b1 0 _ n2 n1 cl cr mid [] (upd σ1 b2 n2) W6 k1 hB6 (upd_same _ _ _) hb1 r4 hes hc1 hc2 (by rw [k6]; rfl) (by rw [k5]; rfl) rfl (by omega) k2 h2' (spkIn_of (upd_same _ _ _) r1 r3 (a := []) (by rw [k6]; rfl) hb1 h31e hlen5)
            have HSP : Hid (Calls Try.prog 43 #[.pointer (some ⟨S, 0, none⟩), .pointer (some ⟨b2, 0, none⟩), .int .i64 0] W6 _) := hsp
            have HR : Hid (WF (upd σ1 b2 n2) (h1 + 1) b2 ∧ cont (upd σ1 b2 n2) (h1 + 1) b2 = cont σ1 h1 b1 ∧ (foot (upd σ1 b2 n2) (h1 + 1) b2).Nodup ∧ b1 ≠ b2 ∧ upd σ1 b2 n2 b1 = some n1 ∧ n1.es = cl ++ mid :: cr ∧ cl.length = 15 ∧ cr.length = 15) := ⟨r1, r2, r3, r4, hb1, hes, hc1, hc2⟩
            clear k1 k2 k3 k4 k5 k6 k7 hnone h31e r1 r2 r3 r4 hb1 hes hc1 hc2 hlen5 h2' hsp
            go_wp2_with fail
            refine Calls.mono HSP.out ?_
            rintro e wy ⟨rfl, br, nc', np', nr', hbr, hIy, hKy, f1, f2, f3, f4, f5, fs⟩
            have HY : Hid (W6.heap.size ≤ br ∧ Inv B wy (u3 (upd σ1 b2 n2) b1 b2 br nc' np' nr') ∧ Kp B W6 wy ∧ nc'.es = cl ∧ nr'.es = cr ∧ np'.es = n2.es ++ [mid] ∧ np'.cs = n2.cs ++ [br] ∧ np'.keys = n2.keys ∧ Spk (upd σ1 b2 n2) n1 nc' nr') := ⟨hbr, hIy, hKy, f1, f2, f3, f4, f5, fs⟩
            clear hbr hIy hKy f1 f2 f3 f4 f5 fs HSP
            go_wp2_with fail
            go_meet
            obtain ⟨hbr, hIy, hKy, f1, f2, f3, f4, f5, fs⟩ := HY.out
            obtain ⟨k1, k2, k3, k4, k5, k6, k7⟩ := H6.out
            obtain ⟨r1, r2, r3, r4, hb1, hes, hc1, hc2⟩ := HR.out
            have hrn : upd σ1 b2 n2 br = none := by
              rcases hq : upd σ1 b2 n2 br with _ | nq
              · rfl
              · have := k1.lt hq; omega
            have D : Dif b1 b2 br := ⟨r4, fun e => (by rw [e, hrn] at hb1; cases hb1), fun e => (by rw [← e, upd_same] at hrn; cases hrn)⟩
            obtain ⟨s1, s2, s3, s4, s5⟩ := splitNode (upd_same σ1 b2 n2) r1 r3 (a := []) (by rw [k6]; rfl) hb1 hes hc1 hc2 hrn f1 f2 f3 f4 f5 fs (by rw [k5]; simp)
            have hnE : nE (u3 (upd σ1 b2 n2) b1 b2 br nc' np' nr') b2 = 1 := by rw [nE_of (u3_b D), f3, k5]; rfl
            exact ⟨b2, rfl, _, h1 + 1, hIy, k4.trans (KpS.of hKy), hKy.cell k2 (by decide), s1, s3, by rw [s2, r2]; exact T2.out.2.2.2.2.1, by rw [hnE]; omega, fun _ => by rw [hnE]; omega, hKy.cell k3 (by decide)⟩
        · have hfI : ¬ (l1 : Int) = 31 := by omega
          have hfb : ((l1 : Int) == 31) = false := by simp; omega
          go_wp2_with fail
          go_meet
          obtain ⟨q1, q2, q3, q4, q5, q6⟩ := T2.out
          exact ⟨b1, rfl, σ1, h1, q1, q2, q3, q4.wf, q4.nodup, q5, by rw [nE_of HN1.out.1, ← HL1.out]; omega, q4.ne, q6⟩
      case rest =>
        obtain ⟨b2, rfl, hP⟩ := hcut
        obtain ⟨pb, hpb⟩ : ∃ pb, pb = wc.heap.size := ⟨_, rfl⟩
        obtain ⟨h1, R0, hBc, hVp⟩ : ∃ h1, Hid (∃ σr, Rw B S w cur L c s h1 b2 pb (wc.alloc (.cells #[.pointer none, .pointer none, .pointer none, .pointer none, .pointer none, .pointer none, .pointer none, .pointer none, .pointer none, .pointer none, .pointer none, .pointer none, .pointer none, .pointer none, .pointer none, .pointer none] 82)) h1 b2 [] σr) ∧ B ≤ wc.heap.size ∧ w.heap.size < pb := by
          obtain ⟨σ2, h2, q1, q2, q3, q4, q5, q6, q7, q8, q9⟩ := hP.out
          have hBc : B ≤ wc.heap.size := Nat.le_trans hB q2.bel.size
          refine ⟨h2, ⟨σ2, q1.alloc _, q2.trans (KpS.of (Kp.alloc hBc _)), by rw [Below.heap_alloc wc _ S (heap_lt q3)]; exact q3, by rw [Below.heap_alloc wc _ _ (heap_lt q9)]; exact q9, ?_, ⟨rfl, rfl⟩, q4, q5, q6, q7, q8⟩, hBc, by rw [hpb]; exact heap_lt q9⟩
          rw [hpb, pathBlk_nil]; exact alloc_new0 wc _
        have hpS : pb ≠ S := by omega
        clear hP T2 HN1 HL1 s2z s0z e1 hBz h31
        go_wp2_with fail
        rw [← hpb]
        generalize wc.alloc (.cells #[.pointer none, .pointer none, .pointer none, .pointer none, .pointer none, .pointer none, .pointer none, .pointer none, .pointer none, .pointer none, .pointer none, .pointer none, .pointer none, .pointer none, .pointer none, .pointer none] 82) = W0 at R0 ⊢
        clear hpb hBc
        go_loopg [6, 8, 9, 10, 12, 13] h1 (fun g s6 s8 s9 s10 s12 s13 wr => ∃ (b' m : Nat), s6 = .pointer (some ⟨b', 0, none⟩) ∧ s8 = .slice (some ⟨pb, 0, none⟩) m 16 ∧ Hid (∃ σr ps, m = ps.length ∧ Rw B S w cur L c s h1 b2 pb wr g b' ps σr))
        case atStart => obtain ⟨σr, hr⟩ := R0.out; exact ⟨b2, 0, rfl, rfl, σr, [], rfl, hr⟩
        case round =>
          obtain ⟨b', m, rfl, rfl, hR0⟩ := hrel
          obtain ⟨σr, ps, hm, hr⟩ := hR0.out
          obtain ⟨p1, p2, p3, p4, P, p5⟩ := hr.rp.parts hr.wf hr.nodup
          have hsL : Srt (P ++ cont σr gk b') := by rw [← p5, hr.ct]; exact HALL.out.2.2.1
          have hlL : Lt (P ++ cont σr gk b') k := by rw [← p5, hr.ct]; exact HALL.out.2.2.2.1
          obtain ⟨nd, hnd, hnd31, hlf, -⟩ := p1.get
          have hltc : Lt (cont σr gk b') k := fun e he => hlL e (by simp [he])
          have hsr := search_end B b' nd k wr (hr.inv.node b' nd hnd) (srt_es p1 hnd (hsL.sub (List.sublist_append_right _ _))) (lt_es p1 hnd hltc)
          have hm3 : m ≤ 3 := by
            have := height_le hr.wf (by rw [hr.ct]; have := HALL.out.2.2.2.2.1; omega)
            have := hr.rp.sub.2.2
            omega
          have hfew : nd.es.length ≤ 30 := by have := hr.few; rw [nE_of hnd] at this; omega
          obtain ⟨r, hrr⟩ : ∃ r, r = nd.es.length := ⟨_, rfl⟩
          rw [← hrr] at hsr hfew
          have HSR := (show Hid _ from hsr)
          have HRR : Hid (Rw B S w cur L c s h1 b2 pb wr gk b' ps σr ∧ σr b' = some nd ∧ r = nd.es.length ∧ m = ps.length ∧ WF σr gk b' ∧ (foot σr gk b').Nodup ∧ Lt (cont σr gk b') k ∧ (cont σr gk b').length ≤ 4990) := ⟨hr, hnd, hrr, hm, p1, p2, hltc, by
            have h1 := congrArg List.length p5
            rw [hr.ct, List.length_append] at h1
            have := HALL.out.2.2.2.2.1; omega⟩
          clear hsr hr hnd hlf hR0 hm p1 p2 p3 p4 p5 hsL hlL hltc hrr hnd31
          go_wp2_with fail
          refine Calls.mono HSR.out ?_
          rintro e wz ⟨rfl, n2, hwz⟩
          have HZ : Hid (Rw B S w cur L c s h1 b2 pb wz gk b' ps σr ∧ σr b' = some nd ∧ r = nd.es.length ∧ m = ps.length ∧ WF σr gk b' ∧ (foot σr gk b').Nodup ∧ Lt (cont σr gk b') k ∧ (cont σr gk b').length ≤ 4990) := by
            obtain ⟨q, q2⟩ := HRR.out
            refine ⟨?_, q2⟩
            rw [hwz]
            exact ⟨q.inv.drewN n2, q.kp.trans (KpS.of (Kp.drewN B wr n2)), q.hS, q.hV, q.path, q.rp, q.wf, q.nodup, q.ct, q.few, q.top⟩
          clear HRR HSR hwz
          have hBz : B ≤ wz.heap.size := Nat.le_trans hB HZ.out.1.kp.bel.size
          cases gk with
          | zero =>
            have hcb : nd.cs.isEmpty = true := by rw [(HZ.out.2.2.2.2.1.zero HZ.out.2.1).1]; rfl
            have HCB := (show Hid _ from hcb)
            have nN := HZ.out.1.inv.node b' nd HZ.out.2.1
            obtain ⟨ap, capp, hvp⟩ := ownsRow_shape nN.ents
            rw [← HZ.out.2.2.1] at hvp
            have c1 : wz.cell? ⟨b', 1, none⟩ = some (.slice ap r capp) := by rw [nN.cells.2.1, hvp]
            have m0 : wz.cell? ⟨w.heap.size, 0, none⟩ = some (.int .u64 c) := by rw [cell_of_row wz _ 0 _ 47 (0, 0) HZ.out.1.hV]; rfl
            have m1 : wz.cell? ⟨w.heap.size, 1, none⟩ = some (.int .u64 s) := by rw [cell_of_row wz _ 1 _ 47 (0, 0) HZ.out.1.hV]; rfl
            have m2 : wz.cell? ⟨w.heap.size, 2, none⟩ = some .nilIface := by rw [cell_of_row wz _ 2 _ 47 (0, 0) HZ.out.1.hV]; rfl
            have ltb : b' < wz.heap.size := heap_lt nN.hd
            have ltv : w.heap.size < wz.heap.size := heap_lt HZ.out.1.hV
            have f1 := alloc_frozen (.cells #[.int .u64 k, .int .u64 c, .int .u64 s, .nilIface] 64) ltb (nN.free 1)
            have a1 := alloc_cell (.cells #[.int .u64 k, .int .u64 c, .int .u64 s, .nilIface] 64) c1
            have hcall := insEndE_st (HZ.out.1.inv.drew.alloc (.cells #[.int .u64 k, .int .u64 c, .int .u64 s, .nilIface] 64)) HZ.out.2.1 (by simp; omega) ⟨hvp, HZ.out.2.2.1⟩ (by omega) ⟨k, c, s⟩ wz.heap.size (alloc_new wz _)
            have HC := (show Hid _ from hcall)
            have HA := (show Hid (_ ∧ _) from ⟨f1, a1⟩)
            clear hcb hvp hcall f1 a1
            go_wp2_with fail
            refine (leaf_any B b' nd _ nN).mono ?_
            rintro e w' ⟨rfl, hw'⟩
            subst w'
            rw [HCB.out]
            clear nN
            go_upto_region 14 with fail
            go_cut [] from 57 to 159 (fun wx => Hid (∃ nd2 : ND, Inv B wx (upd σr b' nd2) ∧ Kp B wz wx ∧ nd2.es = nd.es ++ [⟨k, c, s⟩] ∧ nd2.cs = nd.cs ∧ nd2.keys = nd.keys))
            case first =>
              go_region_with (go_at_call 39; refine Calls.mono HC.out ?_; rintro e wf ⟨g', cap', rfl, hput⟩; have z := hput.2.2 b' nd 1 HZ.out.2.1; rw [HA.out.1, HA.out.2] at z; have y1 := z.1; have y2 := z.2; have HPUT := (show Hid _ from hput); clear z hput)
              all_goals
                go_wp2_with fail
                go_meet
                obtain ⟨hp1, hp2, -⟩ := HPUT.out
                exact ⟨_, hp1, ((Kp.drew B _).trans (Kp.alloc (by exact hBz) _)).trans hp2, rfl, rfl, rfl⟩
            case rest =>
              obtain ⟨nd2, hI, hK, e1, e2, e3⟩ := hcut.out
              have hS8 : wc.heap[S]? = _ := hK.cell HZ.out.1.hS (by decide)
              have hP8 := hK.cell HZ.out.1.path (by decide)
              have s1 : wc.cell? ⟨S, 1, none⟩ = some (.int .i64 n) := by
                rw [cell_of_row wc S 1 _ 36 (0, 0) hS8, Array.getElem?_setIfInBounds, if_neg (by decide)]; exact HALL.out.2.2.2.2.2.2.1
              have fS : wc.frozen? ⟨S, 1, none⟩ = false := by simp [World.frozen?, hS8]
              have hnw : IntKind.i64.wrap (n + 1) = n + 1 := IntWalk.i64_in _ (by omega)
              have H9 : Hid (Inv B (wc.setCell ⟨S, 1, none⟩ (.int .i64 (n + 1))) (upd σr b' nd2) ∧ KpS B S w (wc.setCell ⟨S, 1, none⟩ (.int .i64 (n + 1))) ∧ (wc.setCell ⟨S, 1, none⟩ (.int .i64 (n + 1))).heap[S]? = some (.cells ((cur.setIfInBounds 0 (.pointer (some ⟨b2, 0, none⟩))).setIfInBounds 1 (.int .i64 (n + 1))) 36 (0, 0)) ∧ (wc.setCell ⟨S, 1, none⟩ (.int .i64 (n + 1))).heap[pb]? = some (.cells (pathBlk ps) 82 (0, 0))) :=
                ⟨hI.setOth _ hS8 (by decide), (HZ.out.1.kp.trans (KpS.of hK)).trans (KpS.setCell _ hBS), heap_setCell_at _ hS8, by rw [heap_setCell_not _ hpS]; exact hP8⟩
              have HND : Hid (nd2.es = nd.es ++ [⟨k, c, s⟩] ∧ nd2.cs = nd.cs ∧ nd2.keys = nd.keys) := ⟨e1, e2, e3⟩
              clear hcut hI hK e1 e2 e3 hS8 hP8 HC HA c1 m0 m1 m2 ltb ltv hBz
              go_upto_region 16 with fail
              generalize wc.setCell ⟨S, 1, none⟩ (.int .i64 (n + 1)) = W9 at H9 ⊢
              clear s1 fS
              go_wp2_with fail
              go_loopw [12, 96] (fun s12 s96 wr => ∃ t : Nat, t ≤ m ∧ s96 = .int .i64 t ∧ Hid (Inv B wr (bumpAll (upd σr b' nd2) (ps.take t)) ∧ KpS B S w wr ∧ wr.heap[S]? = some (.cells ((cur.setIfInBounds 0 (.pointer (some ⟨b2, 0, none⟩))).setIfInBounds 1 (.int .i64 (n + 1))) 36 (0, 0)) ∧ wr.heap[pb]? = some (.cells (pathBlk ps) 82 (0, 0)))) (fun _ s _ => m - (intOf s).toNat)
              case atStart => exact ⟨0, Nat.zero_le _, rfl, by obtain ⟨q1, q2, q3, q4⟩ := H9.out; exact ⟨by rw [List.take_zero, bump_nil]; exact q1, q2, q3, q4⟩⟩
              case round =>
                obtain ⟨t, ht, rfl, hT⟩ := hrel
                by_cases htm : t < m
                · have htp : t < ps.length := by rw [← HZ.out.2.2.2.1]; exact htm
                  obtain ⟨p, hp⟩ : ∃ p, p = ps[t] := ⟨_, rfl⟩
                  have hpm : p ∈ ps := by rw [hp]; exact List.getElem_mem htp
                  obtain ⟨-, -, pn3, pn4, -⟩ := HZ.out.1.rp.parts HZ.out.1.wf HZ.out.1.nodup
                  obtain ⟨np, hnp, hk0, hk1⟩ := HZ.out.1.rp.keys HZ.out.1.wf p hpm
                  rw [HZ.out.1.ct] at hk1
                  have hk2 : np.keys ≤ 4990 := by have := HALL.out.2.2.2.2.1; omega
                  have hpb' : p ≠ b' := fun e => pn4 p hpm (by rw [e]; exact foot_self _ _ _)
                  have hpt : p ∉ ps.take t := by
                    intro hx
                    have hd := pn3
                    rw [← List.take_append_drop t ps, List.drop_eq_getElem_cons htp] at hd
                    exact (List.nodup_append.1 hd).2.2 p hx p (by rw [hp]; exact List.mem_cons_self) rfl
                  have hσp : bumpAll (upd σr b' nd2) (ps.take t) p = some np := by rw [bump_out hpt, upd_other _ _ _ _ hpb']; exact hnp
                  have hI2 := hT.out.1.setKeys hσp (np.keys + 1)
                  have hst : upd (bumpAll (upd σr b' nd2) (ps.take t)) p { np with keys := np.keys + 1 } = bumpAll (upd σr b' nd2) (ps.take (t + 1)) := by
                    rw [bump_snoc hpt (by rw [upd_other _ _ _ _ hpb']; exact hnp), List.take_succ_eq_append_getElem htp, hp]
                  rw [hst] at hI2
                  have nP := hT.out.1.node p np hσp
                  have k3 := nP.cells.2.2.2
                  have f3 := nP.free 3
                  have hpc : wr.cell? ⟨pb, t, none⟩ = some (.pointer (some ⟨p, 0, none⟩)) := by
                    rw [cell_of_row wr pb t _ 82 (0, 0) hT.out.2.2.2, pathBlk_get ps t htp, hp]; rfl
                  obtain ⟨kk, hkk⟩ : ∃ kk, kk = np.keys := ⟨_, rfl⟩
                  rw [← hkk] at hI2 k3 hk0 hk2
                  have hkw : IntKind.i64.wrap (kk + 1) = kk + 1 := IntWalk.i64_in _ (by omega)
                  have htI : (t : Int) < (m : Int) := by omega
                  have HN : Hid (Inv B (wr.setCell ⟨p, 3, none⟩ (.int .i64 (kk + 1))) (bumpAll (upd σr b' nd2) (ps.take (t + 1))) ∧ KpS B S w (wr.setCell ⟨p, 3, none⟩ (.int .i64 (kk + 1))) ∧ (wr.setCell ⟨p, 3, none⟩ (.int .i64 (kk + 1))).heap[S]? = some (.cells ((cur.setIfInBounds 0 (.pointer (some ⟨b2, 0, none⟩))).setIfInBounds 1 (.int .i64 (n + 1))) 36 (0, 0)) ∧ (wr.setCell ⟨p, 3, none⟩ (.int .i64 (kk + 1))).heap[pb]? = some (.cells (pathBlk ps) 82 (0, 0))) :=
                    ⟨hI2.1, hT.out.2.1.trans (KpS.of hI2.2), hI2.2.cell hT.out.2.2.1 (by decide), hI2.2.cell hT.out.2.2.2 (by decide)⟩
                  clear nP hst hσp hpt hpb' hnp hk1 pn3 pn4 hpm hp htp hI2 hkk hT H9
                  go_wp2_with fail
                  go_roundw
                  case rel => exact ⟨t + 1, by omega, by go_num, HN.out⟩
                  case measure => simp [intOf]; omega
                · obtain rfl : t = m := by omega
                  clear H9
                  go_wp2_with fail
                  first | go_end0 | refine bodyPost_ret (results_none rfl _ _ _) rfl ?_
                  obtain ⟨q1, q2, q3, q4⟩ := hT.out
                  rw [List.take_of_length_le (by rw [← HZ.out.2.2.2.1]; omega)] at q1
                  obtain ⟨l1, l2, l3, l4⟩ := leafGrow (nd' := nd2) (e := ⟨k, c, s⟩) HZ.out.1.rp HZ.out.1.wf HZ.out.1.nodup HZ.out.2.1 (by rw [← HZ.out.2.2.1]; exact hfew) HND.out.1 HND.out.2.1 HND.out.2.2
                  rw [HZ.out.1.ct] at l2
                  refine ⟨rfl, _, h1, b2, q1, ⟨l1, l3, ?_, fun hh => Nat.lt_of_lt_of_le (HZ.out.1.top hh) l4⟩, l2, q2, q3⟩
                  rw [l2]
                  refine List.pairwise_append.2 ⟨HALL.out.2.2.1, by simp, fun a ha b hb => ?_⟩
                  simp at hb; subst hb
                  exact HALL.out.2.2.2.1 a ha
          | succ g =>
            obtain ⟨s1, s2, s3, s4⟩ := HZ.out.2.2.2.2.1.succ HZ.out.2.1
            have hcne : nd.cs ≠ [] := HZ.out.2.2.2.2.1.ne HZ.out.2.1
            obtain ⟨a, cc, hcs⟩ : ∃ a cc, nd.cs = a ++ [cc] := ⟨nd.cs.dropLast, nd.cs.getLast hcne, (List.dropLast_concat_getLast hcne).symm⟩
            have hal : a.length = r := by have h := s1; rw [hcs] at h; simp at h; rw [HZ.out.2.2.1]; omega
            have hcm : cc ∈ nd.cs := by rw [hcs]; simp
            have wcc := (s4 cc hcm).1
            obtain ⟨nc, hnc, hnc31, -⟩ := wcc.get
            have hcbf : nd.cs.isEmpty = false := by cases hq : nd.cs with | nil => exact absurd hq hcne | cons _ _ => rfl
            have HCB := (show Hid _ from hcbf)
            have nN := HZ.out.1.inv.node b' nd HZ.out.2.1
            have nC := HZ.out.1.inv.node cc nc hnc
            obtain ⟨gk, lk, capk, HVK, hlk0, hlk1, c2, -, -⟩ := nN.rowC (by rw [hcs]; simp)
            have hrl : r < nd.cs.length := by rw [hcs]; simp; omega
            have kc : wz.cell? ⟨gk, r, none⟩ = some (.pointer (some ⟨cc, 0, none⟩)) := by
              have := nN.kid HVK.out.1 (i := r) hrl
              simpa [hcs, ← hal] using this
            obtain ⟨ac, capc, hvc⟩ := ownsRow_shape nC.ents
            obtain ⟨lc, hlc⟩ : ∃ lc, lc = nc.es.length := ⟨_, rfl⟩
            rw [← hlc] at hvc hnc31
            have cc1 : wz.cell? ⟨cc, 1, none⟩ = some (.slice ac lc capc) := by rw [nC.cells.2.1, hvc]
            have hrI : (r : Int) < lk := by rw [HVK.out.2]; omega
            have HP : Hid (nd.cs = a ++ [cc] ∧ a.length = r ∧ σr cc = some nc ∧ lc = nc.es.length ∧ WF σr g cc ∧ cc ∈ nd.cs) := ⟨hcs, hal, hnc, hlc, wcc, hcm⟩
            clear s1 s2 s3 s4 hcne hcs hal hcm wcc hnc hcbf nC hvc hlc hrl
            go_wp2_with fail
            refine (leaf_any B b' nd _ nN).mono ?_
            rintro e w' ⟨rfl, hw'⟩
            subst w'
            rw [HCB.out]
            clear nN
            go_upto_if 119 with fail
            go_cut [9, 13] from 57 to 159 (fun s9 s13 wx => ∃ (c' r' : Nat), s9 = .int .i64 r' ∧ r' ≤ 40 ∧ Hid (∃ σ2, Rx B S w cur L c s h1 b2 pb wx g b' c' r' ps σ2))
            case first =>
              by_cases hf : lc = 31
              · subst hf
                obtain ⟨hcs, hal, hnc, h31, wcc, hcm⟩ := HP.out
                obtain ⟨cl, mid, cr, hes, hc1, hc2⟩ : ∃ cl mid cr, nc.es = cl ++ mid :: cr ∧ cl.length = 15 ∧ cr.length = 15 :=
                  ⟨nc.es.take 15, nc.es[15]'(by omega), nc.es.drop 16, by rw [← List.drop_eq_getElem_cons, List.take_append_drop], by rw [List.length_take]; omega, by rw [List.length_drop]; omega⟩
                have hrp1 : RP σr (g + 1) b' [b'] g cc := RP.snoc (ps := []) ⟨rfl, rfl⟩ HZ.out.2.1 hcs
                obtain ⟨-, -, -, hpn, P, hPc⟩ := hrp1.parts HZ.out.2.2.2.2.1 HZ.out.2.2.2.2.2.1
                have hccb : cc ≠ b' := fun e => hpn b' (by simp) (by rw [← e]; exact foot_self _ _ _)
                have hmk : mid.k < k := by
                  have hl := HZ.out.2.2.2.2.2.2.1
                  rw [hPc] at hl
                  exact lt_es wcc hnc (fun e he => hl e (by simp [he])) mid (by rw [hes]; simp)
                have h2' : (cur.setIfInBounds 0 (.pointer (some ⟨b2, 0, none⟩)))[2]? = some (.int .u64 0) := by rw [Array.getElem?_setIfInBounds, if_neg (by decide)]; exact HALL.out.2.2.2.2.2.2.2
                have hsp := split_any B S b' cc r _ nd nc cl cr mid a σr wz HZ.out.1.inv hBz HZ.out.2.1 hnc hccb hes hc1 hc2 hcs HZ.out.2.2.1.symm hal (by omega) HZ.out.1.hS h2' (spkIn_of HZ.out.2.1 HZ.out.2.2.2.2.1 HZ.out.2.2.2.2.2.1 hcs hnc h31.symm (by have := HZ.out.2.2.2.2.2.2.2; omega))
                have HSP := (show Hid _ from hsp)
                have HE : Hid (nc.es = cl ++ mid :: cr ∧ cl.length = 15 ∧ cr.length = 15 ∧ cc ≠ b') := ⟨hes, hc1, hc2, hccb⟩
                obtain ⟨mk, hmm⟩ : ∃ mk, mk = mid.k := ⟨_, rfl⟩
                rw [← hmm] at hmk
                have HMK : Hid (mk = mid.k) := hmm
                have hmne : ¬ k = mk := by omega
                clear hcs hal hnc h31 wcc hcm hes hc1 hc2 hrp1 hpn hPc hccb h2' hsp hmm
                go_wp2_with fail
                refine Calls.mono HSP.out ?_
                rintro e wy ⟨rfl, br, nc', np', nr', hbr, hIy, hKy, f1, f2, f3, f4, f5, fs⟩
                have hrn : σr br = none := by
                  rcases hq : σr br with _ | nq
                  · rfl
                  · have := HZ.out.1.inv.lt hq; omega
                have D : Dif cc b' br := ⟨HE.out.2.2.2, fun e => (by have h := HP.out.2.2.1; rw [e, hrn] at h; cases h), fun e => (by have h := HZ.out.2.1; rw [e, hrn] at h; cases h)⟩
                have nP := hIy.node b' np' (u3_b D)
                have hnl : np'.es.length = r + 1 := by rw [f3, HZ.out.2.2.1]; simp
                obtain ⟨ge, le, cape, HVE, hle0, hle1, x1, -, -⟩ := nP.rowE (by omega)
                have hle : le = r + 1 := by rw [HVE.out.2]; exact hnl
                subst hle
                have x0 : wy.cell? ⟨ge, r * 4, none⟩ = some (.int .u64 mk) := by
                  have h := (nP.entry HVE.out.1 (i := r) (by omega)).1
                  rw [h, HMK.out]
                  have : np'.es[r]'(by omega) = mid := by simp [f3, HZ.out.2.2.1]
                  rw [this]
                have hrl : (r : Int) < ((r + 1 : Nat) : Int) := by omega
                have HY : Hid (Dif cc b' br ∧ σr br = none ∧ Inv B wy (u3 σr cc b' br nc' np' nr') ∧ Kp B wz wy ∧ nc'.es = cl ∧ nr'.es = cr ∧ np'.es = nd.es ++ [mid] ∧ np'.cs = nd.cs ++ [br] ∧ np'.keys = nd.keys ∧ Spk σr nc nc' nr') := ⟨D, hrn, hIy, hKy, f1, f2, f3, f4, f5, fs⟩
                clear D hrn hbr hIy hKy f1 f2 f3 f4 f5 fs HSP nP hnl
                go_wp2_with fail
                go_meet
                obtain ⟨D, hrn, hIy, hKy, f1, f2, f3, f4, f5, fs⟩ := HY.out
                obtain ⟨y1, y2, y3, y4, y5, y6, y7, y8, y9⟩ := goSplit HZ.out.1.rp HZ.out.1.wf HZ.out.1.nodup HZ.out.2.1 (by rw [← HZ.out.2.2.1]; exact hfew) HP.out.1 HP.out.2.2.1 HE.out.1 HE.out.2.1 HE.out.2.2.1 hrn f1 f2 f3 f4 f5 fs
                exact ⟨br, r + 1, rfl, by omega, _, hIy, HZ.out.1.kp.trans (KpS.of hKy), hKy.cell HZ.out.1.hS (by decide), hKy.cell HZ.out.1.hV (by decide), hKy.cell HZ.out.1.path (by decide), y4, y1, y3, by rw [y2]; exact HZ.out.1.ct, by rw [y6]; omega, fun hh => Nat.lt_of_lt_of_le (HZ.out.1.top hh) y7, np', nd.cs, y8, f4, by rw [HP.out.1]; simp; exact HP.out.2.1⟩
              · have hfI : ¬ (lc : Int) = 31 := by omega
                have hfb : ((lc : Int) == 31) = false := by simp; omega
                go_wp2_with fail
                go_meet
                obtain ⟨q1, q2, q3, q4, q5, q6, q7, q8, q9, q10, q11⟩ := HZ.out.1
                exact ⟨cc, r, rfl, by omega, σr, q1, q2, q3, q4, q5, q6.snoc HZ.out.2.1 HP.out.1, q7, q8, q9, by rw [nE_of HP.out.2.2.1, ← HP.out.2.2.2.1]; omega, q11, nd, a, HZ.out.2.1, HP.out.1, HP.out.2.1⟩
            case rest =>
              obtain ⟨c', r', rfl, hr40, hX0⟩ := hcut
              obtain ⟨σ2, hX⟩ := hX0.out
              obtain ⟨nd2, a2, hn2, hcs2, hal2⟩ := hX.nod
              clear hBz c2 kc cc1 HVK hlk0 hlk1 hrI
              have hBz : B ≤ wc.heap.size := Nat.le_trans hB hX.kp.bel.size
              have hmp : m = ps.length := HZ.out.2.2.2.1
              have hP0 : (wc.alloc (.cells #[.pointer (some ⟨b', 0, none⟩)] 29)).heap[pb]? = some (.cells (pathBlk ps) 82 (0, 0)) := by rw [Below.heap_alloc wc _ pb (heap_lt hX.path)]; exact hX.path
              have happ := path_append (wc.alloc (.cells #[.pointer (some ⟨b', 0, none⟩)] 29)) pb b' wc.heap.size 65 ps hP0 (by omega) (alloc_new0 wc _)
              rw [← hmp] at happ
              obtain ⟨W10, hW10⟩ : ∃ W10, W10 = (wc.alloc (.cells #[.pointer (some ⟨b', 0, none⟩)] 29)).setCell ⟨pb, m, none⟩ (ptr b') := ⟨_, rfl⟩
              rw [← hW10] at happ
              have HAPP := (show Hid _ from happ)
              have hRw : Rw B S w cur L c s h1 b2 pb W10 g c' (ps ++ [b']) σ2 := by
                refine ⟨by rw [hW10]; exact (hX.inv.alloc _).setOth _ hP0 (by decide), by rw [hW10]; exact (hX.kp.trans (KpS.of (Kp.alloc hBz _))).newSet (by omega) hB _, ?_, ?_, ?_, hX.rp, hX.wf, hX.nodup, hX.ct, hX.few, hX.top⟩
                · rw [hW10, heap_setCell_not _ (Ne.symm hpS), Below.heap_alloc wc _ S (heap_lt hX.hS)]; exact hX.hS
                · rw [hW10, heap_setCell_not _ (by omega), Below.heap_alloc wc _ _ (heap_lt hX.hV)]; exact hX.hV
                · rw [hW10, heap_setCell_at _ hP0, hmp, pathBlk_snoc ps b' (by omega)]
              have nN := hRw.inv.node b' nd2 hn2
              obtain ⟨gk, lk, capk, HVK, hlk0, hlk1, c2, -, -⟩ := nN.rowC (by rw [hcs2]; simp)
              have hrl : r' < nd2.cs.length := by rw [hcs2]; simp; omega
              have kc : W10.cell? ⟨gk, r', none⟩ = some (.pointer (some ⟨c', 0, none⟩)) := by
                have := nN.kid HVK.out.1 (i := r') hrl
                simpa [hcs2, ← hal2] using this
              have hrI : (r' : Int) < lk := by rw [HVK.out.2]; omega
              obtain ⟨nc2, hnc2, -⟩ := (hRw.rp.parts hRw.wf hRw.nodup).1.get
              have s2c : W10.cell? ⟨S, 2, none⟩ = some (.int .u64 0) := by
                rw [cell_of_row W10 S 2 _ 36 (0, 0) hRw.hS, Array.getElem?_setIfInBounds, if_neg (by decide)]; exact HALL.out.2.2.2.2.2.2.2
              have hown := own_any B S c' nc2 ⟨gk, r', none⟩ W10 (hRw.inv.node c' nc2 hnc2) s2c kc
              have HOWN := (show Hid _ from hown)
              have HRW : Hid (Rw B S w cur L c s h1 b2 pb W10 g c' (ps ++ [b']) σ2 ∧ m = ps.length) := ⟨hRw, hmp⟩
              clear hX hX0 hn2 hcs2 hal2 hP0 happ hW10 hRw nN hrl hnc2 hown hmp HZ HP HCB hBz
              go_wp2_with (at_builtin; refine wpList_append_by _ rfl (.tmp 148) (.tmp 150) 65 65 rfl _ _ rfl rfl HAPP.out ?_)
              refine Calls.mono HOWN.out ?_
              rintro e wq ⟨rfl, n3, hwq⟩
              have HN : Hid (Rw B S w cur L c s h1 b2 pb wq g c' (ps ++ [b']) σ2) := by
                rw [hwq]
                obtain ⟨q, -⟩ := HRW.out
                exact ⟨q.inv.drewN n3, q.kp.trans (KpS.of (Kp.drewN B _ n3)), q.hS, q.hV, q.path, q.rp, q.wf, q.nodup, q.ct, q.few, q.top⟩
              clear hwq HOWN HAPP
              go_wp2_with fail
              go_roundg g
              case measure => omega
              case rel => exact ⟨c', m + 1, rfl, rfl, σ2, ps ++ [b'], by rw [HRW.out.2]; simp, HN.out⟩
end Go.Proofs.Qxb6613550a
