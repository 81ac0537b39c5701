/-
  THE SMALL WALKS OVER ONE NODE: leaf, size, own, search.
-/
import Derived.Test.Qxb6613550aFrame
import Derived.Test.Qxb6613550aRowClone
namespace Go.Proofs.Qxb6613550a
open Go.RowKit

theorem ret_bool {x y : Bool} (h : x = y) : Ending.returned (.bool x) = .returned (.bool y) := by rw [h]

/-- node.leaf. -/
theorem leaf_any (B b : Nat) (nd : ND) (w : World) (h : NodeAt B w b nd) :
    Calls Try.prog 25 #[.pointer (some ⟨b, 0, none⟩)] w fun e w' => e = .returned (.bool nd.cs.isEmpty) ∧ w' = w := by
  obtain ⟨c0, c1, c2, c3⟩ := h.cells
  have hz : ∃ a n c, nd.vc = .slice a n c ∧ a.isNone = nd.cs.isEmpty := by
    cases hcs : nd.cs with
    | nil => exact ⟨none, 0, 0, h.leaf hcs, rfl⟩
    | cons x l =>
      obtain ⟨g, cap, hv⟩ := ownsRow_some h.kids (by rw [hcs]; simp)
      exact ⟨_, _, _, hv, rfl⟩
  obtain ⟨a, n, c, hv, ha⟩ := hz
  have HA : Hid (a.isNone = nd.cs.isEmpty) := ha
  rw [hv] at c2
  have heq := eqlNilC
  clear hv ha c0 c1 c3 h
  go_enter Try.func25, Try.ntmps25
  go_wp2
  go_ret
  exact ⟨ret_bool HA.out, rfl⟩

/-- node.size. -/
def ND.size (nd : ND) : Int := if nd.cs.isEmpty then nd.es.length else nd.keys

theorem size_any (B b : Nat) (nd : ND) (w : World) (h : NodeAt B w b nd) :
    Calls Try.prog 33 #[.pointer (some ⟨b, 0, none⟩)] w fun e w' => e = .returned (.int .i64 nd.size) ∧ w' = w := by
  obtain ⟨c0, c1, c2, c3⟩ := h.cells
  obtain ⟨a, cap, hv⟩ := ownsRow_shape h.ents
  rw [hv] at c1
  have hfew := h.fewE
  cases hl : nd.cs.isEmpty with
  | true =>
    have hs : Hid (nd.size = nd.es.length) := by unfold Hid ND.size; rw [hl]; rfl
    have HL : Hid (nd.cs.isEmpty = true) := hl
    clear hl hv
    go_enter Try.func33, Try.ntmps33
    go_wp2_with fail
    refine (leaf_any B b nd _ h).mono ?_
    rintro e w' ⟨rfl, hw⟩
    subst w'
    rw [HL.out]
    go_wp2
    go_ret
    exact ⟨by rw [hs.out]; rfl, rfl⟩
  | false =>
    have hs : Hid (nd.size = nd.keys) := by unfold Hid ND.size; rw [hl]; rfl
    have HL : Hid (nd.cs.isEmpty = false) := hl
    clear hl hv
    go_enter Try.func33, Try.ntmps33
    go_wp2_with fail
    refine (leaf_any B b nd _ h).mono ?_
    rintro e w' ⟨rfl, hw⟩
    subst w'
    rw [HL.out]
    go_wp2
    go_ret
    exact ⟨by rw [hs.out]; rfl, rfl⟩

/-- Map.own: of a node of the current epoch: herself. -/
theorem own_any (B S b : Nat) (nd : ND) (a : Addr) (w : World) (h : NodeAt B w b nd) (hep : w.cell? ⟨S, 2, none⟩ = some (.int .u64 0)) (ha : w.cell? a = some (.pointer (some ⟨b, 0, none⟩))) :
    Calls Try.prog 23 #[.pointer (some ⟨S, 0, none⟩), .pointer (some a)] w fun e w' => e = .returned (.pointer (some ⟨b, 0, none⟩)) ∧ ∃ n, w' = w.drewN n := by
  obtain ⟨c0, c1, c2, c3⟩ := h.cells
  clear h c1 c2 c3
  go_enter Try.func23, Try.ntmps23
  go_wp2
  go_quiet (fail)
  go_wp2
  go_ret
  exact ⟨rfl, _, rfl⟩
end Go.Proofs.Qxb6613550a
