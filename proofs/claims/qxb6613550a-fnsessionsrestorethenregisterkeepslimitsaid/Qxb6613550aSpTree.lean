/-
  A SPLIT IN THE TREE: the last child's upper half stands behind it. Plain.
-/
import Derived.Test.Qxb6613550aRp
import Derived.Test.Qxb6613550aSplit
namespace Go.Proofs.Qxb6613550a
set_option linter.unusedVariables false

theorem suf_len (A : List (List Ent)) (e : List Ent) (h : A.length = e.length) : (suf A e).length = (A.map List.length).sum + e.length := by
  induction A generalizing e with
  | nil => cases e with
    | nil => rfl
    | cons _ _ => simp at h
  | cons c A ih =>
    cases e with
    | nil => simp at h
    | cons x e =>
      simp only [suf, List.length_cons, List.length_append, List.map_cons, List.sum_cons]
      rw [ih e (by simpa using h)]; omega
theorem weave_len (A : List (List Ent)) (e : List Ent) (h : A.length = e.length + 1) : (weave A e).length = (A.map List.length).sum + e.length := by
  cases A with
  | nil => simp at h
  | cons c A =>
    show (c ++ suf A e).length = _
    rw [List.length_append, suf_len A e (by simpa using h)]; simp; omega
theorem sumSize_cont {σ : Sto} {g : Nat} : ∀ {l : List Nat}, (∀ x ∈ l, WF σ g x) → sumSize σ l = ((l.map (cont σ g)).map List.length).sum := by
  intro l
  induction l with
  | nil => intro _; rfl
  | cons x l ih =>
    intro h
    obtain ⟨nd, h1, _⟩ := (h x (by simp)).get
    have hs := (h x (by simp)).size h1
    simp only [sumSize, h1, List.map_cons, List.sum_cons]
    rw [hs, ih (fun y hy => h y (by simp [hy]))]; simp

theorem splitKid {σ σ2 : Sto} {g c r : Nat} {nc nc' nr' : ND} {cl cr : List Ent} {mid : Ent} (hc : σ c = some nc) (wc : WF σ g c) (hes : nc.es = cl ++ mid :: cr) (l1 : cl.length = 15) (l2 : cr.length = 15)
    (c2 : σ2 c = some nc') (r2 : σ2 r = some nr') (hag : ∀ z ∈ (foot σ g c).tail, σ2 z = σ z) (e1 : nc'.es = cl) (e2 : nr'.es = cr) (sk : Spk σ nc nc' nr') :
    WF σ2 g c ∧ WF σ2 g r ∧ cont σ g c = cont σ2 g c ++ mid :: cont σ2 g r ∧ (foot σ2 g c ++ foot σ2 g r).Perm (r :: foot σ g c) := by
  cases g with
  | zero =>
    obtain ⟨z1, z2, z3⟩ := wc.zero hc
    rcases sk with ⟨k1, k2, k3, k4, k5⟩ | ⟨kl, kr, k1, k2, k3, _⟩
    · refine ⟨⟨nc', c2, k2, by rw [e1]; omega, by rw [k4]; exact z3⟩, ⟨nr', r2, k3, by rw [e2]; omega, k5⟩, ?_, ?_⟩
      · simp [cont, ents_of hc, ents_of c2, ents_of r2, hes, e1, e2]
      · simp only [foot]; exact List.Perm.swap _ _ _
    · rw [z1] at k1
      have := congrArg List.length k1
      simp at this; omega
  | succ g =>
    obtain ⟨s1, s2, s3, s4⟩ := wc.succ hc
    have f := kids_frame hc hag
    rcases sk with ⟨k1, _⟩ | ⟨kl, kr, k1, k2, k3, k4, k5, k6, k7⟩
    · exact absurd k1 (wc.ne hc)
    · have ml : ∀ z ∈ kl, z ∈ nc.cs := fun z hz => by rw [k1]; simp [hz]
      have mr : ∀ z ∈ kr, z ∈ nc.cs := fun z hz => by rw [k1]; simp [hz]
      have hkrn : kr ≠ [] := fun e => by rw [e] at k3; simp at k3
      have hc1 : cont σ (g + 1) c = weave (kl.map (cont σ g)) cl ++ mid :: weave (kr.map (cont σ g)) cr := by
        rw [cont_succ hc, k1, hes, List.map_append]
        exact weave_append _ _ _ _ _ (by simp; omega) (by simpa using hkrn)
      have hcc : cont σ2 (g + 1) c = weave (kl.map (cont σ g)) cl := by
        rw [cont_succ c2, k4, e1, List.map_congr_left fun z hz => (f z (ml z hz)).1]
      have hcr : cont σ2 (g + 1) r = weave (kr.map (cont σ g)) cr := by
        rw [cont_succ r2, k5, e2, List.map_congr_left fun z hz => (f z (mr z hz)).1]
      have hsum : sumSize σ kr = ((kr.map (cont σ g)).map List.length).sum := sumSize_cont (fun z hz => (s4 z (mr z hz)).1)
      have hlr : (cont σ2 (g + 1) r).length = ((kr.map (cont σ g)).map List.length).sum + 15 := by rw [hcr, weave_len _ _ (by simp; omega), l2]
      have hlc : (cont σ (g + 1) c).length = (cont σ2 (g + 1) c).length + (1 + (cont σ2 (g + 1) r).length) := by rw [hc1, hcc, hcr]; simp; omega
      refine ⟨⟨nc', c2, by rw [k4, e1, k2, l1], by rw [e1]; omega, ?_, fun z hz => ?_⟩, ⟨nr', r2, by rw [k5, e2, k3, l2], by rw [e2]; omega, ?_, fun z hz => ?_⟩, by rw [hcc, hcr, hc1], ?_⟩
      · rw [k7, s3, hsum]; omega
      · rw [k4] at hz
        exact ⟨(f z (ml z hz)).2.2.1 (s4 z (ml z hz)).1, by rw [(f z (ml z hz)).2.2.2]; exact (s4 z (ml z hz)).2⟩
      · rw [k6, hsum]; omega
      · rw [k5] at hz
        exact ⟨(f z (mr z hz)).2.2.1 (s4 z (mr z hz)).1, by rw [(f z (mr z hz)).2.2.2]; exact (s4 z (mr z hz)).2⟩
      · rw [foot_succ c2, foot_succ r2, foot_succ hc, k4, k5, k1, List.flatMap_append, foot_congr (fun z hz => (f z (ml z hz)).2.1), foot_congr (fun z hz => (f z (mr z hz)).2.1)]
        simp only [List.cons_append]
        refine (List.Perm.cons c List.perm_middle).trans (List.Perm.swap _ _ _)

theorem splitNode {σ : Sto} {g b c r : Nat} {nd nc nc' np' nr' : ND} {a : List Nat} {cl cr : List Ent} {mid : Ent} (hb : σ b = some nd) (hw : WF σ (g + 1) b) (hn : (foot σ (g + 1) b).Nodup) (hcs : nd.cs = a ++ [c]) (hc : σ c = some nc) (hes : nc.es = cl ++ mid :: cr) (l1 : cl.length = 15) (l2 : cr.length = 15) (hr : σ r = none)
    (e1 : nc'.es = cl) (e2 : nr'.es = cr) (e3 : np'.es = nd.es ++ [mid]) (e4 : np'.cs = nd.cs ++ [r]) (e5 : np'.keys = nd.keys) (sk : Spk σ nc nc' nr') (h30 : nd.es.length ≤ 30) :
    WF (u3 σ c b r nc' np' nr') (g + 1) b ∧ cont (u3 σ c b r nc' np' nr') (g + 1) b = cont σ (g + 1) b ∧ (foot (u3 σ c b r nc' np' nr') (g + 1) b).Nodup ∧ (∀ x ∈ foot (u3 σ c b r nc' np' nr') (g + 1) b, x ∈ foot σ (g + 1) b ∨ σ x = none) ∧ nE σ b ≤ nE (u3 σ c b r nc' np' nr') b := by
  obtain ⟨s1, s2, s3, s4⟩ := hw.succ hb
  have hcm : c ∈ nd.cs := by rw [hcs]; simp
  have hsome := foot_some hw
  have hn0 := hn
  rw [foot_succ hb, hcs] at hn0
  obtain ⟨hbn, hkn⟩ := List.nodup_cons.1 hn0
  obtain ⟨da, -, hcn⟩ := nodup_kids hkn
  have hbc : b ∉ foot σ g c := fun hx => hbn (List.mem_flatMap.2 ⟨c, by simp, hx⟩)
  have hcb : c ≠ b := fun e => hbc (e ▸ foot_self _ _ _)
  have hne : ∀ x ∈ foot σ (g + 1) b, x ≠ r := fun x hx e => hsome x hx (e ▸ hr)
  have hrc : c ≠ r := hne c (mem_foot_kid hb hcm (foot_self _ _ _))
  have hrb : b ≠ r := hne b (foot_self _ _ _)
  have D : Dif c b r := ⟨hcb, hrc, hrb⟩
  obtain ⟨k1, k2, k3, k4⟩ := splitKid (σ2 := u3 σ c b r nc' np' nr') hc (s4 c hcm).1 hes l1 l2 (u3_a D) u3_c (fun z hz => by
    have hz' := List.mem_of_mem_tail hz
    exact u3_other (tail_ne hcn hz) (fun e => hbc (e ▸ hz')) (hne z (mem_foot_kid hb hcm hz'))) e1 e2 sk
  have fa : ∀ z ∈ a, cont (u3 σ c b r nc' np' nr') g z = cont σ g z ∧ foot (u3 σ c b r nc' np' nr') g z = foot σ g z ∧ (WF σ g z → WF (u3 σ c b r nc' np' nr') g z) ∧ nE (u3 σ c b r nc' np' nr') z = nE σ z := fun z hz =>
    frame g z (fun y hy => u3_other (fun e => da z hz y hy (e ▸ foot_self _ _ _)) (fun e => hbn (List.mem_flatMap.2 ⟨z, by simp [hz], e ▸ hy⟩)) (hne y (mem_foot_kid hb (by rw [hcs]; simp [hz]) hy)))
  have at2 : u3 σ c b r nc' np' nr' b = some np' := u3_b D
  have hle : a.length = nd.es.length := by rw [hcs] at s1; simp at s1; omega
  have hcs2 : np'.cs = a ++ [c] ++ [r] := by rw [e4, hcs]
  have hc1 : cont σ (g + 1) b = pre (a.map (cont σ g)) nd.es ++ cont σ g c := by
    have := weave_split (a.map (cont σ g)) (cont σ g c) [] nd.es [] (by simpa using hle)
    rw [List.append_nil] at this
    rw [cont_succ hb, hcs, List.map_append, List.map_cons, List.map_nil, this]; simp [suf]
  have hct : cont (u3 σ c b r nc' np' nr') (g + 1) b = cont σ (g + 1) b := by
    have := weave_split ((a ++ [c]).map (cont (u3 σ c b r nc' np' nr') g)) (cont (u3 σ c b r nc' np' nr') g r) [] (nd.es ++ [mid]) [] (by simp [hle])
    rw [List.append_nil] at this
    rw [cont_succ at2, hcs2, e3, List.map_append, List.map_cons, List.map_nil, this, List.map_append, List.map_cons, List.map_nil, pre_snoc _ _ _ _ (by simpa using hle), List.map_congr_left fun z hz => (fa z hz).1, hc1, k3]
    simp [suf]
  have hf1 : foot σ (g + 1) b = b :: (a.flatMap (foot σ g) ++ foot σ g c) := by rw [foot_succ hb, hcs]; simp
  have hperm : (foot (u3 σ c b r nc' np' nr') (g + 1) b).Perm (r :: foot σ (g + 1) b) := by
    rw [foot_succ at2, hcs2, List.flatMap_append, List.flatMap_append, foot_congr (fun z hz => (fa z hz).2.1), hf1]
    simp only [List.flatMap_cons, List.flatMap_nil, List.append_nil]
    rw [List.append_assoc]
    refine (List.Perm.cons b ((List.Perm.append_left _ k4).trans List.perm_middle)).trans (List.Perm.swap _ _ _)
  have hrn : r ∉ foot σ (g + 1) b := fun hx => hne r hx rfl
  refine ⟨⟨np', at2, by rw [e4, e3]; simp; omega, by rw [e3]; simp; omega, by rw [hct, e5]; exact s3, fun z hz => ?_⟩, hct, (hperm.nodup_iff).2 (List.nodup_cons.2 ⟨hrn, hn⟩), fun x hx => ?_, by rw [nE_of hb, nE_of at2, e3]; simp⟩
  · rw [hcs2] at hz
    simp only [List.mem_append, List.mem_cons, List.not_mem_nil, or_false] at hz
    rcases hz with (hz | rfl) | rfl
    · have w := s4 z (by rw [hcs]; simp [hz])
      exact ⟨(fa z hz).2.2.1 w.1, by rw [(fa z hz).2.2.2]; exact w.2⟩
    · exact ⟨k1, by rw [nE_of (u3_a D), e1]; omega⟩
    · exact ⟨k2, by rw [nE_of u3_c, e2]; omega⟩
  · rcases List.mem_cons.1 (hperm.subset hx) with rfl | hx
    · exact .inr hr
    · exact .inl hx
end Go.Proofs.Qxb6613550a
