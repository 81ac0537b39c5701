/-
  WHAT split AND Set ASK OF THE TREE; the height of a tree of few keys; the insert at the foot of the rightmost path. Plain.
-/
import Derived.Test.Qxb6613550aSpTree
namespace Go.Proofs.Qxb6613550a
set_option linter.unusedVariables false

theorem sum_sub {l l' : List Nat} (h : l.Sublist l') : l.sum ≤ l'.sum := by
  induction h with
  | slnil => exact Nat.le_refl _
  | cons a _ ih => simp; omega
  | cons_cons a _ ih => simp; omega

theorem spkIn_of {σ : Sto} {g b c : Nat} {nd nc : ND} {a : List Nat} (hb : σ b = some nd) (hw : WF σ (g + 1) b) (hn : (foot σ (g + 1) b).Nodup) (hcs : nd.cs = a ++ [c]) (hc : σ c = some nc) (h31 : nc.es.length = 31) (hlen : (cont σ (g + 1) b).length ≤ 5000) : SpkIn σ c b nc := by
  obtain ⟨s1, s2, s3, s4⟩ := hw.succ hb
  have hcm : c ∈ nd.cs := by rw [hcs]; simp
  have wc := (s4 c hcm).1
  have hl := len_kid hw hb hcm
  cases g with
  | zero => exact .inl (wc.zero hc).1
  | succ g =>
    obtain ⟨t1, t2, t3, t4⟩ := wc.succ hc
    refine .inr ⟨by omega, by omega, by omega, fun kl kr hk hkl => ⟨fun x hx => ?_, fun t ht => ?_⟩⟩
    · have hxm : x ∈ nc.cs := by rw [hk]; simp [hx]
      have hn0 := hn
      rw [foot_succ hb, hcs] at hn0
      obtain ⟨hbn, hkn⟩ := List.nodup_cons.1 hn0
      obtain ⟨-, -, hcn⟩ := nodup_kids hkn
      obtain ⟨nm, g1, g2, g3, g4, g5⟩ := grand wc hc hcn hxm
      exact ⟨g4, fun e => hbn (List.mem_flatMap.2 ⟨c, by simp, e ▸ g3⟩), nm, g1⟩
    · have hsub : (kr.take t).Sublist nc.cs := by rw [hk]; exact (List.take_sublist _ _).trans (List.sublist_append_right _ _)
      have h1 := sumSize_cont (σ := σ) (g := g) (l := kr.take t) (fun x hx => (t4 x (hsub.subset hx)).1)
      have h2 : (((kr.take t).map (cont σ g)).map List.length).sum ≤ ((nc.cs.map (cont σ g)).map List.length).sum := sum_sub ((hsub.map _).map _)
      have h3 : (cont σ (g + 1) c).length = ((nc.cs.map (cont σ g)).map List.length).sum + nc.es.length := by rw [cont_succ hc, weave_len _ _ (by simpa using t1)]
      rw [h1]; omega

/-- A tree of few keys is low. -/
theorem low {σ : Sto} : ∀ {h b : Nat}, WF σ h b → 15 ≤ nE σ b → 15 * 16 ^ h ≤ (cont σ h b).length := by
  intro h
  induction h with
  | zero => intro b hw h15; simpa [cont, nE] using h15
  | succ h ih =>
    intro b hw h15
    obtain ⟨nd, hb, -⟩ := hw.get
    obtain ⟨s1, s2, s3, s4⟩ := hw.succ hb
    rw [nE_of hb] at h15
    rw [cont_succ hb, weave_len _ _ (by simpa using s1)]
    have key : ∀ l : List Nat, (∀ x ∈ l, x ∈ nd.cs) → l.length * (15 * 16 ^ h) ≤ ((l.map (cont σ h)).map List.length).sum := by
      intro l
      induction l with
      | nil => intro _; simp
      | cons x l ihl =>
        intro hl
        have h1 := ih (s4 x (hl x (by simp))).1 (s4 x (hl x (by simp))).2
        have h2 := ihl (fun y hy => hl y (by simp [hy]))
        simp only [List.length_cons, List.map_cons, List.sum_cons, Nat.add_mul]; omega
    have h1 := key nd.cs (fun x hx => hx)
    have h2 : 16 * (15 * 16 ^ h) ≤ nd.cs.length * (15 * 16 ^ h) := Nat.mul_le_mul_right _ (by omega)
    have h3 : 15 * 16 ^ (h + 1) = 16 * (15 * 16 ^ h) := by rw [Nat.pow_succ]; omega
    omega
end Go.Proofs.Qxb6613550a
