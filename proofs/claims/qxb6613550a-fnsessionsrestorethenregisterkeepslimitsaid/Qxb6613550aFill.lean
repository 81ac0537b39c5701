/-
  Map.fill, whichever way it goes.
-/
import Derived.Test.Qxb6613550aFillPrep
namespace Go.Proofs.Qxb6613550a
open Go.RowKit
set_option linter.unusedVariables false

theorem split_at {α : Type} (l : List α) (r : Nat) (h : r < l.length) : ∃ a c d, l = a ++ c :: d ∧ a.length = r :=
  ⟨l.take r, l[r], l.drop (r + 1), by rw [List.getElem_cons_drop, List.take_append_drop], by rw [List.length_take]; omega⟩

theorem noleft_of {σ : Sto} {h b : Nat} {k : Int} {nd : ND} (t : At σ h b k nd) {a : List Nat} {c : Nat} {d : List Nat} (cs : nd.cs = a ++ c :: d) (hl : ∀ a' l, a = a' ++ [l] → nE σ l ≤ 15) : NoLeft (upd σ b (dec nd)) (dec nd) a.length := by
  rcases List.eq_nil_or_concat a with rfl | ⟨a', l, rfl⟩
  · exact .inl rfl
  · obtain ⟨nl, h1, h2, h3, h4, _⟩ := t.kid (p := l) (by rw [cs]; simp)
    have := hl a' l (by simp)
    rw [nE_of h1] at this
    exact .inr ⟨a'.length, l, nl, by simp, by show nd.cs[a'.length]? = _; rw [cs]; simp, by rw [upd_other _ _ _ _ h2]; exact h1, by omega, this⟩

theorem fill_any {B S : Nat} {w : World} {σ : Sto} {h b : Nat} {k : Int} {nd : ND} (t : At σ h b k nd) (hI : Inv B w (upd σ b (dec nd))) (hB : B ≤ w.heap.size) (hep : w.cell? ⟨S, 2, none⟩ = some (.int .u64 0)) (hlen : (cont σ (h + 1) b).length ≤ 5000)
    {r : Nat} (c0 : Cut nd.es k r) (nf : fnd nd.es k r = false) (hpos : 0 < nd.es.length) :
    Calls Try.prog 30 #[.pointer (some ⟨S, 0, none⟩), .pointer (some ⟨b, 0, none⟩), .int .i64 (r : Int)] w (Filled B w σ h b k) := by
  obtain ⟨s1, s2, s3, s4⟩ := t.shape
  have hr := c0.le
  obtain ⟨a, c, d, cs, ha⟩ := split_at nd.cs r (by omega)
  have la : a.length = (nd.es.take r).length := by rw [List.length_take]; omega
  have hp := t.parts cs (List.take_append_drop r nd.es).symm la
  have hs := t.srt
  have hk := t.has
  rw [hp] at hs hk
  obtain ⟨q1, q2⟩ := cut_parts t.es_srt c0 nf
  have hloc := locate hs hk q1 q2
  obtain ⟨nc, hc, hcb, wc, c1, c2, c3, c4, c5, c6, c7⟩ := t.kid (p := c) (by rw [cs]; simp)
  subst ha
  by_cases hen : 15 < nE σ c
  · refine Calls.mono (fill_enough B S b c a.length (dec nd) nc (upd σ b (dec nd)) w hI (upd_same _ _ _) (by rw [upd_other _ _ _ _ hcb]; exact hc) (by show nd.cs[a.length]? = _; rw [cs]; simp) (by rw [← nE_of hc]; exact hen)) ?_
    rintro e w' ⟨rfl, hw⟩
    subst w'
    exact ⟨a.length, c, _, _, a, d, _, _, rfl, hI, Kp.refl _ _, prep_enough t c0 nf cs rfl hen, rfl⟩
  · have hc15 : nE σ c ≤ 15 := by omega
    -- is there a sibling before it that can spare one?
    by_cases hleft : ∃ a' l, a = a' ++ [l] ∧ 15 < nE σ l
    · obtain ⟨a', l, rfl, hl15⟩ := hleft
      obtain ⟨e1, x, e2, es, he1⟩ := split_at nd.es a'.length (by simp at hr; omega)
      have := fill_case_left (S := S) t hI hB hep hlen (a := a') (l := l) (c := c) (d := d) (by rw [cs]; simp) es he1.symm hloc hc15 hl15
      simpa using this
    · have hno := noleft_of t cs (fun a' l e => by
        have : ¬ 15 < nE σ l := fun hl => hleft ⟨a', l, e, hl⟩
        omega)
      by_cases hlt : a.length < nd.es.length
      · obtain ⟨e1, x, e2, es, he1⟩ := split_at nd.es a.length hlt
        cases d with
        | nil => rw [cs] at s1; simp at s1; omega
        | cons r d =>
          obtain ⟨nr, hr', hrb, wr, l1, l2, l3, l4, l5, l6, l7⟩ := t.kid (p := r) (by rw [cs]; simp)
          by_cases hr15 : 15 < nE σ r
          · exact fill_case_right t hI hB hep hlen cs es he1.symm hloc hc15 hr15 hno
          · have hr15' : nE σ r ≤ 15 := by omega
            obtain ⟨sp, sq, sa, sd, np, nq⟩ := t.sep cs
            have hcr : c ≠ r := fun e => (sp c (foot_self _ _ _)).1 (e ▸ foot_self _ _ _)
            rw [nE_of hr'] at hr15'
            rw [nE_of hc] at hc15
            refine Calls.mono (fill_merge B S b c r a.length (dec nd) nc nr e1 e2 x a d (upd σ b (dec nd)) w hI hB (upd_same _ _ _) (by rw [upd_other _ _ _ _ hcb]; exact hc) (by rw [upd_other _ _ _ _ hrb]; exact hr') (fun e => hcb e.symm) (fun e => hrb e.symm) hcr
              es cs he1 rfl hep hc15 (by omega) hr15' hno (by omega) (by omega) (by rw [c4, l4]) (by omega) c6 (by omega) l6 (by omega)) ?_
            rintro e w' ⟨rfl, nc', np', hI', hK', p1, p2, p3, p4, p5, p6⟩
            exact ⟨a.length, c, _, np', a, d, e1, e2, rfl, hI', hK', merge_prep (B := B) (w := w) (w' := w') t cs es he1.symm hc hr' hc15 hr15' p1 p2 p3 p4 p5 (by rw [p6]; rfl) (.inl hloc), rfl⟩
      · -- the last child: it merges with the one before it
        have hae : a.length = nd.es.length := by omega
        have hd : d = [] := by
          cases d with
          | nil => rfl
          | cons _ _ => rw [cs] at s1; simp at s1; omega
        subst hd
        rcases List.eq_nil_or_concat a with rfl | ⟨a', l, rfl⟩
        · simp at hae; omega
        · rw [List.concat_eq_append] at *
          obtain ⟨e1, x, e2, es, he1⟩ := split_at nd.es a'.length (by simp at hae; omega)
          have he2 : e2 = [] := by
            cases e2 with
            | nil => rfl
            | cons _ _ => rw [es] at hae; simp at hae; omega
          subst he2
          have cs' : nd.cs = a' ++ l :: c :: [] := by rw [cs]; simp
          obtain ⟨nl, hl', hlb, wl, l1, l2, l3, l4, l5, l6, l7⟩ := t.kid (p := l) (by rw [cs]; simp)
          have hl15 : nE σ l ≤ 15 := by
            have : ¬ 15 < nE σ l := fun hl => hleft ⟨a', l, rfl, hl⟩
            omega
          obtain ⟨sp, sq, sa, sd, np, nq⟩ := t.sep cs'
          have hlc : l ≠ c := fun e => (sp l (foot_self _ _ _)).1 (e ▸ foot_self _ _ _)
          rw [nE_of hl'] at hl15
          rw [nE_of hc] at hc15
          have hm := fill_mergeL B S b l c a'.length (dec nd) nl nc e1 x a' (upd σ b (dec nd)) w hI hB (upd_same _ _ _) (by rw [upd_other _ _ _ _ hlb]; exact hl') (by rw [upd_other _ _ _ _ hcb]; exact hc) (fun e => hlb e.symm) (fun e => hcb e.symm) hlc
              es cs' he1 rfl hep hl15 (by omega) hc15 (by omega) (by omega) (by rw [c4, l4]) (by omega) l6 (by omega) c6 (by omega)
          have hcast : (((a' ++ [l]).length : Nat) : Int) = (a'.length : Int) + 1 := by simp
          rw [hcast]
          refine Calls.mono hm ?_
          rintro e w' ⟨rfl, nc', np', hI', hK', p1, p2, p3, p4, p5, p6⟩
          exact ⟨a'.length, l, _, np', a', [], e1, [], rfl, hI', hK', merge_prep (B := B) (w := w) (w' := w') t cs' es he1.symm hl' hc hl15 hc15 p1 p2 p3 (by rw [p4]; simp) p5 (by rw [p6]; rfl) (.inr (.inr hloc)), rfl⟩
end Go.Proofs.Qxb6613550a
