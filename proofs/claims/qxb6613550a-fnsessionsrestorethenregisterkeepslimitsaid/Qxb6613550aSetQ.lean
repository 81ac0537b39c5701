/-
  Map.Set of a key greater than all: the plain part: a new root over a full one; a split on the way down; the insert at the foot.
-/
import Derived.Test.Qxb6613550aSpIn
namespace Go.Proofs.Qxb6613550a
set_option linter.unusedVariables false

theorem rootUp {σ : Sto} {h b b2 : Nat} {n1 n2 : ND} (hw : WF σ h b) (hn : (foot σ h b).Nodup) (hb : σ b = some n1) (h31 : n1.es.length = 31) (hnew : σ b2 = none) (e1 : n2.es = []) (e2 : n2.cs = [b]) (e3 : n2.keys = n1.size) :
    WF (upd σ b2 n2) (h + 1) b2 ∧ cont (upd σ b2 n2) (h + 1) b2 = cont σ h b ∧ (foot (upd σ b2 n2) (h + 1) b2).Nodup ∧ b ≠ b2 := by
  have hs := foot_some hw
  have hni : b2 ∉ foot σ h b := fun hx => hs b2 hx hnew
  have hne : b ≠ b2 := fun e => hni (e ▸ foot_self _ _ _)
  obtain ⟨f1, f2, f3, f4⟩ := frame (σ := σ) (σ' := upd σ b2 n2) h b (fun x hx => upd_other _ _ _ _ (fun e => hni (e ▸ hx)))
  have hc : cont (upd σ b2 n2) (h + 1) b2 = cont σ h b := by
    rw [cont_succ (upd_same _ _ _), e1, e2]; simp [weave, suf, f1]
  refine ⟨⟨n2, upd_same _ _ _, by rw [e1, e2]; rfl, by rw [e1]; simp, ?_, fun c hcm => ?_⟩, hc, ?_, hne⟩
  · rw [hc, e3]; exact hw.size hb
  · rw [e2] at hcm; simp at hcm; subst hcm
    exact ⟨f3 hw, by rw [f4, nE_of hb]; omega⟩
  · rw [foot_succ (upd_same _ _ _), e2]
    simp only [List.flatMap_cons, List.flatMap_nil, List.append_nil]
    rw [f2]
    exact List.nodup_cons.2 ⟨hni, hn⟩

theorem RP.frame {σ σ2 : Sto} : ∀ {ps : List Nat} {h b g b' : Nat}, RP σ h b ps g b' → (∀ p ∈ ps, σ2 p = σ p) → RP σ2 h b ps g b' := by
  intro ps
  induction ps with
  | nil => intro h b g b' hr _; exact hr
  | cons p ps ih =>
    intro h b g b' hr hp
    obtain ⟨rfl, h0, nd, a, c, rfl, h1, h2, h3⟩ := hr
    exact ⟨rfl, h0, nd, a, c, rfl, by rw [hp p (by simp)]; exact h1, h2, ih h3 (fun q hq => hp q (by simp [hq]))⟩

theorem RP.parts {σ : Sto} : ∀ {ps : List Nat} {h b g b' : Nat}, RP σ h b ps g b' → WF σ h b → (foot σ h b).Nodup →
    WF σ g b' ∧ (foot σ g b').Nodup ∧ ps.Nodup ∧ (∀ p ∈ ps, p ∉ foot σ g b') ∧ ∃ P, cont σ h b = P ++ cont σ g b' := by
  intro ps
  induction ps with
  | nil =>
    intro h b g b' hr hw hn
    obtain ⟨rfl, rfl⟩ := hr
    exact ⟨hw, hn, List.nodup_nil, fun p hp => by simp at hp, [], rfl⟩
  | cons p ps ih =>
    intro h b g b' hr hw hn
    obtain ⟨rfl, h0, nd, a, c, rfl, h1, h2, h3⟩ := hr
    obtain ⟨s1, s2, s3, s4⟩ := hw.succ h1
    obtain ⟨r1, r2, r3⟩ := h3.sub
    have hn' := hn
    rw [foot_succ h1, h2] at hn'
    obtain ⟨hpn, hkn⟩ := List.nodup_cons.1 hn'
    obtain ⟨da, -, hcn⟩ := nodup_kids hkn
    have hcm : c ∈ nd.cs := by rw [h2]; simp
    have hpc : p ∉ foot σ h0 c := fun hx => hpn (List.mem_flatMap.2 ⟨c, by simp, hx⟩)
    obtain ⟨i1, i2, i3, i4, P, i5⟩ := ih h3 (s4 c hcm).1 hcn
    have hle : a.length = nd.es.length := by rw [h2] at s1; simp at s1; omega
    have hc1 : cont σ (h0 + 1) p = pre (a.map (cont σ h0)) nd.es ++ cont σ h0 c := by
      have := weave_split (a.map (cont σ h0)) (cont σ h0 c) [] nd.es [] (by simpa using hle)
      rw [List.append_nil] at this
      rw [cont_succ h1, h2, List.map_append, List.map_cons, List.map_nil, this]; simp [suf]
    refine ⟨i1, i2, List.nodup_cons.2 ⟨fun hx => hpc (r2 p hx), i3⟩, fun q hq => ?_, pre (a.map (cont σ h0)) nd.es ++ P, by rw [hc1, i5]; simp⟩
    rcases List.mem_cons.1 hq with rfl | hq
    · exact fun hx => hpc (r1 _ hx)
    · exact i4 q hq

theorem goSplit {σ : Sto} {h b : Nat} {ps : List Nat} {g b' c r : Nat} {nd nc nc' np' nr' : ND} {a : List Nat} {cl cr : List Ent} {mid : Ent} (hr : RP σ h b ps (g + 1) b') (hw : WF σ h b) (hn : (foot σ h b).Nodup) (hb : σ b' = some nd) (h30 : nd.es.length ≤ 30) (hcs : nd.cs = a ++ [c]) (hc : σ c = some nc) (hes : nc.es = cl ++ mid :: cr) (l1 : cl.length = 15) (l2 : cr.length = 15) (hrn : σ r = none)
    (e1 : nc'.es = cl) (e2 : nr'.es = cr) (e3 : np'.es = nd.es ++ [mid]) (e4 : np'.cs = nd.cs ++ [r]) (e5 : np'.keys = nd.keys) (sk : Spk σ nc nc' nr') :
    WF (u3 σ c b' r nc' np' nr') h b ∧ cont (u3 σ c b' r nc' np' nr') h b = cont σ h b ∧ (foot (u3 σ c b' r nc' np' nr') h b).Nodup ∧ RP (u3 σ c b' r nc' np' nr') h b (ps ++ [b']) g r ∧ RP (u3 σ c b' r nc' np' nr') h b ps (g + 1) b' ∧
      nE (u3 σ c b' r nc' np' nr') r = 15 ∧ nE σ b ≤ nE (u3 σ c b' r nc' np' nr') b ∧ u3 σ c b' r nc' np' nr' b' = some np' ∧ u3 σ c b' r nc' np' nr' r = some nr' := by
  obtain ⟨p1, p2, p3, p4, P, p5⟩ := hr.parts hw hn
  obtain ⟨r1, r2, r3⟩ := hr.sub
  have hsome := foot_some hw
  obtain ⟨t1, t2, t3, t4, t5⟩ := splitNode hb p1 p2 hcs hc hes l1 l2 hrn e1 e2 e3 e4 e5 sk h30
  have hcm : c ∈ nd.cs := by rw [hcs]; simp
  have hcf : c ∈ foot σ (g + 1) b' := mem_foot_kid hb hcm (foot_self _ _ _)
  have hbf : b' ∈ foot σ (g + 1) b' := foot_self _ _ _
  have oth : ∀ x ∈ foot σ h b, x ∉ foot σ (g + 1) b' → u3 σ c b' r nc' np' nr' x = σ x := fun x hx hxn =>
    u3_other (fun e => hxn (e ▸ hcf)) (fun e => hxn (e ▸ hbf)) (fun e => hsome x hx (e ▸ hrn))
  have hps : ∀ p ∈ ps, u3 σ c b' r nc' np' nr' p = σ p := fun p hp => oth p (r2 p hp) (p4 p hp)
  have hrp := hr.frame hps
  have hn0 := p2
  rw [foot_succ hb] at hn0
  have hcb : c ≠ b' := fun e => (List.nodup_cons.1 hn0).1 (List.mem_flatMap.2 ⟨c, hcm, e ▸ foot_self _ _ _⟩)
  have D : Dif c b' r := ⟨hcb, fun e => hsome c (r1 c hcf) (e ▸ hrn), fun e => hsome b' (r1 b' hbf) (e ▸ hrn)⟩
  obtain ⟨q1, q2, q3, q4, q5⟩ := rp_grow (X := []) hr hw hn (fun p hp => by
    obtain ⟨np, hnp⟩ := Option.ne_none_iff_exists'.1 (hsome p (r2 p hp))
    exact ⟨np, hnp, by rw [hps p hp, hnp]; simp⟩) (fun x hx hxn _ => oth x hx hxn) t1 (by simpa using t2) t4 t3 t5
  exact ⟨q1, by simpa using q2, q3, hrp.snoc (u3_b D) (by rw [e4]), hrp, by rw [nE_of u3_c, e2, l2], q5, u3_b D, u3_c⟩

theorem RP.keys {σ : Sto} : ∀ {ps : List Nat} {h b g b' : Nat}, RP σ h b ps g b' → WF σ h b → ∀ p ∈ ps, ∃ nd, σ p = some nd ∧ 0 ≤ nd.keys ∧ nd.keys ≤ (cont σ h b).length := by
  intro ps
  induction ps with
  | nil => intro h b g b' _ _ p hp; simp at hp
  | cons q ps ih =>
    intro h b g b' hr hw p hp
    obtain ⟨rfl, h0, nd, a, c, rfl, h1, h2, h3⟩ := hr
    obtain ⟨s1, s2, s3, s4⟩ := hw.succ h1
    have hcm : c ∈ nd.cs := by rw [h2]; simp
    rcases List.mem_cons.1 hp with rfl | hp
    · exact ⟨nd, h1, by omega, by omega⟩
    · obtain ⟨nd', k1, k2, k3⟩ := ih h3 (s4 c hcm).1 p hp
      have := len_kid hw h1 hcm
      exact ⟨nd', k1, k2, by omega⟩

/-- The counts of the nodes on the path, each one more. -/
def bumpAll (σ : Sto) (l : List Nat) : Sto := fun x => if x ∈ l then (σ x).map (fun nd => { nd with keys := nd.keys + 1 }) else σ x
theorem bump_nil (σ : Sto) : bumpAll σ [] = σ := by funext x; simp [bumpAll]
theorem bump_out {σ : Sto} {l : List Nat} {x : Nat} (h : x ∉ l) : bumpAll σ l x = σ x := by simp [bumpAll, h]
theorem bump_in {σ : Sto} {l : List Nat} {x : Nat} {nd : ND} (h : x ∈ l) (hx : σ x = some nd) : bumpAll σ l x = some { nd with keys := nd.keys + 1 } := by simp [bumpAll, h, hx]
theorem bump_snoc {σ : Sto} {l : List Nat} {x : Nat} {nd : ND} (h : x ∉ l) (hx : σ x = some nd) : upd (bumpAll σ l) x { nd with keys := nd.keys + 1 } = bumpAll σ (l ++ [x]) := by
  funext y
  by_cases e : y = x
  · subst e; rw [upd_same, bump_in (by simp) hx]
  · rw [upd_other _ _ _ _ e]
    simp [bumpAll, e]

theorem leafGrow {σ : Sto} {h b : Nat} {ps : List Nat} {b' : Nat} {nd nd' : ND} {e : Ent} (hr : RP σ h b ps 0 b') (hw : WF σ h b) (hn : (foot σ h b).Nodup) (hb : σ b' = some nd) (h30 : nd.es.length ≤ 30)
    (e1 : nd'.es = nd.es ++ [e]) (e2 : nd'.cs = nd.cs) (e3 : nd'.keys = nd.keys) :
    WF (bumpAll (upd σ b' nd') ps) h b ∧ cont (bumpAll (upd σ b' nd') ps) h b = cont σ h b ++ [e] ∧ (foot (bumpAll (upd σ b' nd') ps) h b).Nodup ∧ nE σ b ≤ nE (bumpAll (upd σ b' nd') ps) b := by
  obtain ⟨p1, p2, p3, p4, P, p5⟩ := hr.parts hw hn
  obtain ⟨r1, r2, r3⟩ := hr.sub
  have hsome := foot_some hw
  obtain ⟨z1, z2, z3⟩ := p1.zero hb
  have hbn : b' ∉ ps := fun hx => p4 b' hx (foot_self _ _ _)
  have hat : bumpAll (upd σ b' nd') ps b' = some nd' := by rw [bump_out hbn, upd_same]
  have hne : ∀ p ∈ ps, p ≠ b' := fun p hp e => hbn (e ▸ hp)
  obtain ⟨q1, q2, q3, q4, q5⟩ := rp_grow (σ2 := bumpAll (upd σ b' nd') ps) (X := [e]) hr hw hn (fun p hp => by
    obtain ⟨np, hnp⟩ := Option.ne_none_iff_exists'.1 (hsome p (r2 p hp))
    exact ⟨np, hnp, by rw [bump_in hp (by rw [upd_other _ _ _ _ (hne p hp)]; exact hnp)]; simp⟩)
    (fun x hx hxn hxp => by rw [bump_out hxp]; exact upd_other _ _ _ _ (fun he => hxn (by rw [he]; exact foot_self _ _ _)))
    ⟨nd', hat, by rw [e2]; exact z1, by rw [e1]; simp; omega, by rw [e3]; exact z3⟩ (by simp only [cont]; rw [ents_of hat, ents_of hb, e1]) (fun x hx => .inl (by simpa [foot] using hx)) (by simp [foot]) (by rw [nE_of hb, nE_of hat, e1]; simp)
  exact ⟨q1, q2, q3, q5⟩
end Go.Proofs.Qxb6613550a
