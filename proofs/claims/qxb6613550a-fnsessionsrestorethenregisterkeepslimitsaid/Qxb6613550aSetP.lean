/-
  Map.Set of a key greater than all.
-/
import Derived.Test.Qxb6613550aSpIn
import Derived.Test.Qxb6613550aDelete
import Derived.ArgAppend
namespace Go.Proofs.Qxb6613550a
open Go.RowKit
set_option linter.unusedVariables false

theorem height_le {σ : Sto} {h b : Nat} (hw : WF σ h b) (hl : (cont σ h b).length ≤ 5000) : h ≤ 3 := by
  cases h with
  | zero => omega
  | succ h =>
    obtain ⟨nd, hb, -⟩ := hw.get
    obtain ⟨s1, s2, s3, s4⟩ := hw.succ hb
    have hne : 0 < nd.cs.length := by omega
    have hm : nd.cs[0] ∈ nd.cs := List.getElem_mem hne
    have h1 := low (s4 _ hm).1 (s4 _ hm).2
    have h2 := len_kid hw hb hm
    have h3 : 15 * 16 ^ h ≤ 5000 := by omega
    rcases Nat.lt_or_ge h 3 with h4 | h4
    · omega
    · have := Nat.pow_le_pow_right (n := 16) (by omega) h4
      omega

/-- All keys lie below k. -/
def Lt (l : List Ent) (k : Int) : Prop := ∀ e ∈ l, e.k < k

theorem cut_last {es : List Ent} {k : Int} (h : Lt es k) {r : Nat} (c : Cut es k r) : r = es.length ∧ fnd es k r = false := by
  have hr : r = es.length := by
    rcases Nat.lt_or_ge r es.length with hl | hl
    · have h1 := c.hi r (Nat.le_refl _) hl
      rw [kAt_lt hl] at h1
      have := h _ (List.getElem_mem hl)
      omega
    · have := c.le; omega
  exact ⟨hr, by simp [fnd, hr]⟩

theorem lt_es {σ : Sto} {h b : Nat} {nd : ND} (hw : WF σ h b) (hb : σ b = some nd) {k : Int} (hl : Lt (cont σ h b) k) : Lt nd.es k := by
  cases h with
  | zero => simpa [cont, ents_of hb] using hl
  | succ h =>
    obtain ⟨s1, _⟩ := hw.succ hb
    intro e he
    refine hl e ?_
    rw [cont_succ hb]
    exact (sub_weave _ _ (by simp [s1])).subset he

/-- search, the key greater than all. -/
theorem search_end (B b : Nat) (nd : ND) (k : Int) (w : World) (h : NodeAt B w b nd) (hs : Srt nd.es) (hl : Lt nd.es k) :
    Calls Try.prog 24 #[.pointer (some ⟨b, 0, none⟩), .int .u64 k] w fun e w' => e = .returned (.tuple #[.int .i64 (nd.es.length : Int), .bool false]) ∧ ∃ n, w' = w.drewN n := by
  rcases Nat.eq_zero_or_pos nd.es.length with h0 | h0
  · refine Calls.mono (search_none B b nd k w h (List.length_eq_zero_iff.1 h0)) ?_
    rintro e w' ⟨rfl, hn⟩
    exact ⟨by rw [h0]; rfl, hn⟩
  · refine Calls.mono (search_any B b nd k w h hs h0) ?_
    rintro e w' ⟨r, rfl, hc, hn⟩
    obtain ⟨h1, h2⟩ := cut_last hl hc
    exact ⟨by rw [h2, h1], hn⟩
end Go.Proofs.Qxb6613550a
