/-
  node.recount: the count of a node that is no leaf.
-/
import Derived.Test.Qxb6613550aSearch
import Derived.Deep.RegionHeld3
namespace Go.Proofs.Qxb6613550a
open Go.RowKit

/-- The sizes of the first t children, summed. -/
def sumSize (σ : Sto) : List Nat → Int
  | [] => 0
  | c :: cs => (match σ c with | some nd => nd.size | none => 0) + sumSize σ cs

theorem sumSize_append (σ : Sto) (a b : List Nat) : sumSize σ (a ++ b) = sumSize σ a + sumSize σ b := by
  induction a with
  | nil => simp [sumSize]
  | cons x a ih => simp only [List.cons_append, sumSize, ih]; omega

/-- The cell of a child. -/
theorem NodeAt.kid {B : Nat} {w : World} {b : Nat} {nd : ND} (h : NodeAt B w b nd) {g n cap : Nat} (hv : nd.vc = .slice (some ⟨g, 0, none⟩) n cap) {i : Nat} (hi : i < nd.cs.length) :
    w.cell? ⟨g, i, none⟩ = some (.pointer (some ⟨nd.cs[i], 0, none⟩)) := by
  have own := h.kids
  obtain ⟨a, c, hs⟩ := ownsRow_shape own
  have hnl : n = nd.cs.length := by rw [hv] at hs; cases hs; rfl
  rw [hv, hnl] at own
  rw [own.cellAt _ (by omega)]
  simp [ptrs, ptr, hi]

set_option maxHeartbeats 1600000 in
theorem recount_any (B b : Nat) (nd : ND) (σ : Sto) (w : World) (h : Inv B w σ) (hb : σ b = some nd) (hne : nd.cs ≠ []) (hbn : b ∉ nd.cs) (hk : ∀ c ∈ nd.cs, ∃ n, σ c = some n)
    (hsm : ∀ t, t ≤ nd.cs.length → 0 ≤ sumSize σ (nd.cs.take t) ∧ sumSize σ (nd.cs.take t) ≤ 1000000) :
    Calls Try.prog 50 #[.pointer (some ⟨b, 0, none⟩)] w fun e w' => e = .returned (.tuple #[]) ∧ Inv B w' (upd σ b { nd with keys := nd.es.length + sumSize σ nd.cs }) ∧ Kp B w w' := by
  have n := h.node b nd hb
  obtain ⟨c0, c1, c2, c3⟩ := n.cells
  have f3 := n.free 3
  have hcl : 0 < nd.cs.length := List.length_pos_iff.2 hne
  obtain ⟨g, cap, hv⟩ := ownsRow_some n.kids hcl
  obtain ⟨a, cape, hve⟩ := ownsRow_shape n.ents
  rw [hve] at c1
  rw [hv] at c2
  have hfe := n.fewE
  have hfc := n.fewC
  have hemp : nd.cs.isEmpty = false := by cases hc : nd.cs with | nil => exact absurd hc hne | cons _ _ => rfl
  have HE : Hid (nd.cs.isEmpty = false) := hemp
  clear hemp
  go_enter Try.func50, Try.ntmps50
  go_wp2_with fail
  refine (leaf_any B b nd _ n).mono ?_
  rintro e w' ⟨rfl, hw⟩
  subst w'
  rw [HE.out]
  go_wp2
  obtain ⟨hI0, hK0⟩ := h.setKeys hb (nd.es.length : Int)
  have hcell : Hid (∀ t, (ht : t < nd.cs.length) → w.cell? ⟨g, t, none⟩ = some (.pointer (some ⟨nd.cs[t], 0, none⟩))) := fun t ht => n.kid hv ht
  have hgb : g ≠ b := fun e => by
    obtain ⟨cur, hh⟩ := ownsRow_heap n.kids (show nd.vc.ownBlock = some g by rw [hv]; rfl)
    rw [e, n.hd] at hh; simp at hh
  have HV : Hid (nd.vc = .slice (some ⟨g, 0, none⟩) nd.cs.length cap) := hv
  have HVE : Hid (nd.ve = .slice a nd.es.length cape) := hve
  have HB : Hid (σ b = some nd) := hb
  have HK : Hid (∀ c ∈ nd.cs, ∃ n, σ c = some n) := hk
  have HSM : Hid (∀ t, t ≤ nd.cs.length → 0 ≤ sumSize σ (nd.cs.take t) ∧ sumSize σ (nd.cs.take t) ≤ 1000000) := hsm
  have HBN : Hid (b ∉ nd.cs) := hbn
  clear hv hve hb hk hsm hbn c0 c1 c2 c3 f3 n hne
  go_loopw [19] (fun i wr => ∃ t : Nat, t ≤ nd.cs.length ∧ i = .int .i64 t ∧ Inv B wr (upd σ b { nd with keys := nd.es.length + sumSize σ (nd.cs.take t) }) ∧ Kp B w wr) (fun i _ => nd.cs.length - (intOf i).toNat)
  case atStart => exact ⟨0, Nat.zero_le _, rfl, by simpa [sumSize] using hI0, hK0⟩
  case round =>
    obtain ⟨t, ht, rfl, hI, hKp⟩ := hrel
    by_cases hlt : t < nd.cs.length
    · have hmem : nd.cs[t] ∈ nd.cs := List.getElem_mem hlt
      obtain ⟨nc, hnc⟩ := HK.out _ hmem
      have hcb : nd.cs[t] ≠ b := fun e => HBN.out (e ▸ hmem)
      have hnc' : upd σ b { nd with keys := nd.es.length + sumSize σ (nd.cs.take t) } nd.cs[t] = some nc := by rw [upd_other _ _ _ _ hcb]; exact hnc
      have nb := hI.node b _ (upd_same _ _ _)
      obtain ⟨d0, d1, d2, d3⟩ := nb.cells
      have f3 := nb.free 3
      have hkc0 := nb.kid HV.out hlt
      have hs1 := HSM.out t (by omega)
      have hs2 := HSM.out (t + 1) (by omega)
      have hsz : sumSize σ (nd.cs.take (t + 1)) = sumSize σ (nd.cs.take t) + nc.size := by
        rw [List.take_succ_eq_append_getElem hlt, sumSize_append]
        simp [sumSize, hnc]
      have hI2 := (hI.setKeys (upd_same _ _ _) (nd.es.length + sumSize σ (nd.cs.take t) + nc.size))
      rw [upd_upd] at hI2
      obtain ⟨c, hc⟩ : ∃ c, c = nd.cs[t] := ⟨_, rfl⟩
      have hkc : wr.cell? ⟨g, t, none⟩ = some (.pointer (some ⟨c, 0, none⟩)) := by rw [hc]; exact hkc0
      have hnode : NodeAt B wr c nc := by rw [hc]; exact hI.node _ _ hnc'
      have hnode1 : NodeAt B wr.drew c nc := hnode.keep rfl (fun _ _ => rfl) (fun _ _ => rfl)
      have hcb' : ¬ c = b := by rw [hc]; exact hcb
      obtain ⟨q, hq⟩ : ∃ q, q = nd.es.length + sumSize σ (nd.cs.take t) := ⟨_, rfl⟩
      have hd3 : wr.cell? ⟨b, 3, none⟩ = some (.int .i64 q) := by rw [hq]; exact d3
      obtain ⟨z, hz⟩ : ∃ z, z = nc.size := ⟨_, rfl⟩
      have hq0 : 0 ≤ q := by omega
      have hq1 : q ≤ 2000000 := by omega
      have hq2 : 0 ≤ q + z := by omega
      have hq3 : q + z ≤ 2000000 := by omega
      have HQ : Hid (q = nd.es.length + sumSize σ (nd.cs.take t)) := hq
      have HZ : Hid (z = nc.size) := hz
      have HSZ : Hid (sumSize σ (nd.cs.take (t + 1)) = sumSize σ (nd.cs.take t) + nc.size) := hsz
      have H2 := (show Hid (_ ∧ _) from hI2)
      clear hkc0 hq hz hsz hI2 hs1 hs2 hnc hnc' hcb hc d0 d1 d2 d3 hmem
      have hfin : Hid (Inv B (wr.setCell ⟨b, 3, none⟩ (.int .i64 (q + z))).drew (upd σ b { nd with keys := nd.es.length + sumSize σ (nd.cs.take (t + 1)) }) ∧ Kp B w (wr.setCell ⟨b, 3, none⟩ (.int .i64 (q + z))).drew) := by
        have := H2.out
        rw [HQ.out, HZ.out]
        rw [HSZ.out, ← Int.add_assoc]
        exact ⟨this.1.drew, (hKp.trans this.2).trans (Kp.drew _ _)⟩
      go_wp2_with fail
      go_region_with (go_at_call 33; refine (size_any B c nc wr.drew hnode1).mono ?_; rintro e w' ⟨rfl, hw⟩; subst w'; rw [← HZ.out])
      all_goals
        go_wp2
        go_roundw
        case rel => exact ⟨t + 1, by omega, by go_num, hfin.out.1, hfin.out.2⟩
        case measure => simp [intOf]; omega
    · obtain rfl : t = nd.cs.length := by omega
      rw [List.take_length] at hI
      have HI := (show Hid _ from hI)
      clear hI
      go_wp2
      go_end0
      exact ⟨rfl, HI.out, hKp⟩
end Go.Proofs.Qxb6613550a
