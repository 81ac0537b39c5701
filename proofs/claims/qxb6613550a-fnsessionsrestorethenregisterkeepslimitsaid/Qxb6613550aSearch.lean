/-
  node.search: the binary search over a node's entries.
-/
import Derived.Test.Qxb6613550aSmall
namespace Go.Proofs.Qxb6613550a
open Go.RowKit

/-- The keys stand in their order, no two alike. -/
def Srt (es : List Ent) : Prop := es.Pairwise fun a b => a.k < b.k

def kAt (es : List Ent) (i : Nat) : Int := (es[i]?.map Ent.k).getD 0

/-- What search hands back: r, the number of the entries below key. -/
structure Cut (es : List Ent) (key : Int) (r : Nat) : Prop where
  le : r ≤ es.length
  lo : ∀ i, i < r → kAt es i < key
  hi : ∀ i, r ≤ i → i < es.length → key ≤ kAt es i

def fnd (es : List Ent) (key : Int) (r : Nat) : Bool := decide (r < es.length) && (kAt es r == key)

theorem kAt_lt {es : List Ent} {i : Nat} (h : i < es.length) : kAt es i = es[i].k := by simp [kAt, h]
theorem Srt.mono {es : List Ent} (h : Srt es) {i j : Nat} (hij : i < j) (hj : j < es.length) : kAt es i < kAt es j := by
  rw [kAt_lt hj, kAt_lt (by omega)]
  exact List.pairwise_iff_getElem.1 h i j (by omega) hj hij

/-- The cells of an entry. -/
theorem NodeAt.entry {B : Nat} {w : World} {b : Nat} {nd : ND} (h : NodeAt B w b nd) {g n cap : Nat} (hv : nd.ve = .slice (some ⟨g, 0, none⟩) n cap) {i : Nat} (hi : i < nd.es.length) :
    w.cell? ⟨g, i * 4, none⟩ = some (.int .u64 nd.es[i].k) ∧ w.cell? ⟨g, i * 4 + 1, none⟩ = some (.int .u64 nd.es[i].c) ∧ w.cell? ⟨g, i * 4 + 2, none⟩ = some (.int .u64 nd.es[i].s) ∧ w.cell? ⟨g, i * 4 + 3, none⟩ = some .nilIface := by
  have own := h.ents
  obtain ⟨a, c, hs⟩ := ownsRow_shape own
  have hnl : n = nd.es.length := by rw [hv] at hs; cases hs; rfl
  rw [hv, hnl] at own
  have c : ∀ j, j < 4 → w.cell? ⟨g, i * 4 + j, none⟩ = (entCells nd.es[i])[j]? := fun j hj => by
    rw [own.cellAt _ (by omega), entsCells_get nd.es i j hi hj]
  exact ⟨c 0 (by omega), c 1 (by omega), c 2 (by omega), c 3 (by omega)⟩

set_option maxHeartbeats 800000 in
theorem search_any (B b : Nat) (nd : ND) (key : Int) (w : World) (h : NodeAt B w b nd) (hs : Srt nd.es) (hpos : 0 < nd.es.length) :
    Calls Try.prog 24 #[.pointer (some ⟨b, 0, none⟩), .int .u64 key] w fun e w' => ∃ r : Nat, e = .returned (.tuple #[.int .i64 r, .bool (fnd nd.es key r)]) ∧ Cut nd.es key r ∧ ∃ n, w' = w.drewN n := by
  obtain ⟨c0, c1, c2, c3⟩ := h.cells
  obtain ⟨g, cap, hv⟩ := ownsRow_some h.ents hpos
  have hent : Hid (∀ i, i < nd.es.length → w.cell? ⟨g, i * 4, none⟩ = some (.int .u64 (kAt nd.es i))) := fun i hi => by rw [kAt_lt hi]; exact (h.entry hv hi).1
  rw [hv] at c1
  have hfew := h.fewE
  obtain ⟨n, hn⟩ : ∃ n, n = nd.es.length := ⟨_, rfl⟩
  rw [← hn] at c1 hfew
  have HN : Hid (n = nd.es.length) := hn
  have HS : Hid (Srt nd.es) := hs
  clear hv hn h c0 c2 c3 hpos hs
  go_enter Try.func24, Try.ntmps24
  go_wp2
  go_quiet (fail)
  go_wp2
  go_loop [6, 7] (fun lo hi => ∃ l r : Nat, l ≤ r ∧ r ≤ n ∧ lo = .int .i64 l ∧ hi = .int .i64 r ∧ Hid ((∀ i, i < l → kAt nd.es i < key) ∧ ∀ i, r ≤ i → i < n → key ≤ kAt nd.es i)) (fun lo hi => (intOf hi - intOf lo).toNat)
  case atStart => exact ⟨0, n, Nat.zero_le _, Nat.le_refl _, rfl, rfl, fun i hi => by omega, fun i h1 h2 => by omega⟩
  case round =>
    obtain ⟨l, r, hlr, hrn, rfl, rfl, hinv⟩ := hrel
    by_cases hlt : l < r
    · have hm : (l + r) / 2 < nd.es.length := by have := HN.out; omega
      have hcm := hent.out ((l + r) / 2) hm
      by_cases hk : kAt nd.es ((l + r) / 2) < key
      · go_wp2
        go_round
        case rel =>
          refine ⟨(l + r) / 2 + 1, r, by omega, hrn, by go_num, rfl, fun i hi => ?_, hinv.out.2⟩
          rcases Nat.lt_or_ge i ((l + r) / 2) with h1 | h1
          · have := Srt.mono HS.out h1 hm; omega
          · obtain rfl : i = (l + r) / 2 := by omega
            exact hk
        case measure => simp [intOf]; omega
      · go_wp2
        go_round
        case rel =>
          refine ⟨l, (l + r) / 2, by omega, by omega, rfl, by go_num, hinv.out.1, fun i h1 h2 => ?_⟩
          rcases Nat.lt_or_ge ((l + r) / 2) i with h3 | h3
          · have := Srt.mono HS.out h3 (by have := HN.out; omega); omega
          · obtain rfl : i = (l + r) / 2 := by omega
            omega
        case measure => simp [intOf]; omega
    · obtain rfl : l = r := by omega
      have hcut : Hid (Cut nd.es key l) := ⟨by have := HN.out; omega, hinv.out.1, fun i h1 h2 => hinv.out.2 i h1 (by have := HN.out; omega)⟩
      by_cases hln : l < n
      · have hm : l < nd.es.length := by have := HN.out; omega
        have hcm := hent.out l hm
        have hf : Hid (fnd nd.es key l = (kAt nd.es l == key)) := by unfold Hid fnd; simp [hm]
        go_wp2
        go_quiet (fail)
        go_wp2
        go_ret2
        exact ⟨l, by rw [hf.out]; rfl, hcut.out, _, World.drewN_drewN _ _ _⟩
      · have hf : Hid (fnd nd.es key l = false) := by
          have := HN.out
          unfold Hid fnd
          simp; intro h; omega
        have hd : decide ((l : Int) < (n : Int)) = false := by simp; omega
        go_wp2
        go_quiet (fail)
        go_wp2
        go_ret2
        exact ⟨l, by rw [hf.out]; rfl, hcut.out, _, World.drewN_drewN _ _ _⟩

set_option maxHeartbeats 800000 in
/-- .. at a node without entries. -/
theorem search_none (B b : Nat) (nd : ND) (key : Int) (w : World) (h : NodeAt B w b nd) (hz : nd.es = []) :
    Calls Try.prog 24 #[.pointer (some ⟨b, 0, none⟩), .int .u64 key] w fun e w' => e = .returned (.tuple #[.int .i64 0, .bool false]) ∧ ∃ n, w' = w.drewN n := by
  obtain ⟨c0, c1, c2, c3⟩ := h.cells
  obtain ⟨a, cap, hv⟩ := ownsRow_shape h.ents
  rw [hv, hz] at c1
  simp only [List.length_nil] at c1
  have hd : decide ((0 : Int) < 0) = false := by decide
  clear hv hz h c0 c2 c3
  go_enter Try.func24, Try.ntmps24
  go_wp2
  go_quiet (fail)
  go_wp2
  refine wp_loop_rounds 1 ?_
  rw [rounds_succ]
  go_wp2
  go_quiet (fail)
  go_wp2
  go_ret2
  exact ⟨rfl, _, World.drewN_drewN _ _ _⟩
end Go.Proofs.Qxb6613550a
