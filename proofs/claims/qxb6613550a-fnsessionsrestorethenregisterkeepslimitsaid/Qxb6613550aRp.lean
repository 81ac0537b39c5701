/-
  THE RIGHTMOST PATH: what a change at its foot makes of the whole tree. Plain.
-/
import Derived.Test.Qxb6613550aGet
namespace Go.Proofs.Qxb6613550a
set_option linter.unusedVariables false

/-- ps are the nodes above b' on the way from b down the last children. -/
def RP (σ : Sto) : Nat → Nat → List Nat → Nat → Nat → Prop
  | h, b, [], g, b' => h = g ∧ b = b'
  | h, b, p :: ps, g, b' => p = b ∧ ∃ h0 nd a c, h = h0 + 1 ∧ σ b = some nd ∧ nd.cs = a ++ [c] ∧ RP σ h0 c ps g b'

theorem RP.snoc {σ : Sto} : ∀ {ps : List Nat} {h b g b' : Nat} {nd : ND} {a : List Nat} {c : Nat}, RP σ h b ps (g + 1) b' → σ b' = some nd → nd.cs = a ++ [c] → RP σ h b (ps ++ [b']) g c := by
  intro ps
  induction ps with
  | nil =>
    intro h b g b' nd a c hr hb hc
    obtain ⟨rfl, rfl⟩ := hr
    exact ⟨rfl, g, nd, a, c, rfl, hb, hc, rfl, rfl⟩
  | cons p ps ih =>
    intro h b g b' nd a c hr hb hc
    obtain ⟨rfl, h0, nd0, a0, c0, rfl, h1, h2, h3⟩ := hr
    exact ⟨rfl, h0, nd0, a0, c0, rfl, h1, h2, ih h3 hb hc⟩

theorem foot_some {σ : Sto} : ∀ {h b : Nat}, WF σ h b → ∀ x ∈ foot σ h b, σ x ≠ none := by
  intro h
  induction h with
  | zero =>
    intro b hw x hx
    obtain ⟨nd, h1, _⟩ := hw
    simp [foot] at hx; subst hx; rw [h1]; simp
  | succ h ih =>
    intro b hw x hx
    obtain ⟨nd, h1, _, _, _, h5⟩ := hw
    rw [foot_succ h1] at hx
    rcases List.mem_cons.1 hx with rfl | hx
    · rw [h1]; simp
    · obtain ⟨c, hc, hx⟩ := List.mem_flatMap.1 hx
      exact ih (h5 c hc).1 x hx

theorem RP.sub {σ : Sto} : ∀ {ps : List Nat} {h b g b' : Nat}, RP σ h b ps g b' → (∀ x ∈ foot σ g b', x ∈ foot σ h b) ∧ (∀ p ∈ ps, p ∈ foot σ h b) ∧ h = g + ps.length := by
  intro ps
  induction ps with
  | nil =>
    intro h b g b' hr
    obtain ⟨rfl, rfl⟩ := hr
    exact ⟨fun x hx => hx, fun p hp => by simp at hp, by simp⟩
  | cons p ps ih =>
    intro h b g b' hr
    obtain ⟨rfl, h0, nd0, a0, c0, rfl, h1, h2, h3⟩ := hr
    obtain ⟨i1, i2, i3⟩ := ih h3
    have hsub : ∀ x ∈ foot σ h0 c0, x ∈ foot σ (h0 + 1) p := fun x hx => mem_foot_kid h1 (by rw [h2]; simp) hx
    refine ⟨fun x hx => hsub x (i1 x hx), fun q hq => ?_, by simp; omega⟩
    rcases List.mem_cons.1 hq with rfl | hq
    · exact foot_self _ _ _
    · exact hsub q (i2 q hq)

theorem rp_grow {σ σ2 : Sto} {X : List Ent} : ∀ {ps : List Nat} {h b g b' : Nat}, RP σ h b ps g b' → WF σ h b → (foot σ h b).Nodup →
    (∀ p ∈ ps, ∃ nd, σ p = some nd ∧ σ2 p = some { nd with keys := nd.keys + X.length }) → (∀ x ∈ foot σ h b, x ∉ foot σ g b' → x ∉ ps → σ2 x = σ x) →
    WF σ2 g b' → cont σ2 g b' = cont σ g b' ++ X → (∀ x ∈ foot σ2 g b', x ∈ foot σ g b' ∨ σ x = none) → (foot σ2 g b').Nodup → nE σ b' ≤ nE σ2 b' →
    WF σ2 h b ∧ cont σ2 h b = cont σ h b ++ X ∧ (foot σ2 h b).Nodup ∧ (∀ x ∈ foot σ2 h b, x ∈ foot σ h b ∨ σ x = none) ∧ nE σ b ≤ nE σ2 b := by
  intro ps
  induction ps with
  | nil =>
    intro h b g b' hr hw hn hp ho w2 c2 f2 n2 e2
    obtain ⟨rfl, rfl⟩ := hr
    exact ⟨w2, c2, n2, f2, e2⟩
  | cons p ps ih =>
    intro h b g b' hr hw hn hp ho w2 c2 f2 n2 e2
    obtain ⟨rfl, h0, nd, a, c, rfl, h1, h2, h3⟩ := hr
    obtain ⟨s1, s2, s3, s4⟩ := hw.succ h1
    obtain ⟨r1, r2, r3⟩ := h3.sub
    have hn' := hn
    rw [foot_succ h1, h2] at hn'
    obtain ⟨hpn, hkn⟩ := List.nodup_cons.1 hn'
    obtain ⟨da, -, hcn⟩ := nodup_kids hkn
    have hpc : p ∉ foot σ h0 c := fun hx => hpn (List.mem_flatMap.2 ⟨c, by simp, hx⟩)
    have hcm : c ∈ nd.cs := by rw [h2]; simp
    obtain ⟨nd', q1, q2⟩ := hp p (by simp)
    rw [h1] at q1; cases q1
    obtain ⟨i1, i2, i3, i4, i5⟩ := ih h3 (s4 c hcm).1 hcn (fun q hq => hp q (by simp [hq])) (fun x hxc hx hxp => ho x (mem_foot_kid h1 hcm hxc) hx (by
      simp only [List.mem_cons, not_or]
      exact ⟨fun e => hpc (e ▸ hxc), hxp⟩)) w2 c2 f2 n2 e2
    have hq2 : σ2 p = some { nd with keys := nd.keys + X.length } := q2
    have fa : ∀ z ∈ a, cont σ2 h0 z = cont σ h0 z ∧ foot σ2 h0 z = foot σ h0 z ∧ (WF σ h0 z → WF σ2 h0 z) ∧ nE σ2 z = nE σ z := fun z hz =>
      frame h0 z (fun y hy => ho y (mem_foot_kid h1 (by rw [h2]; simp [hz]) hy) (fun hx => da z hz y hy (r1 y hx)) (by
        simp only [List.mem_cons, not_or]
        exact ⟨fun e => hpn (List.mem_flatMap.2 ⟨z, by simp [hz], e ▸ hy⟩), fun hx => da z hz y hy (r2 y hx)⟩))
    have hle : a.length = nd.es.length := by rw [h2] at s1; simp at s1; omega
    have hc1 : cont σ (h0 + 1) p = pre (a.map (cont σ h0)) nd.es ++ cont σ h0 c := by
      have := weave_split (a.map (cont σ h0)) (cont σ h0 c) [] nd.es [] (by simpa using hle)
      rw [List.append_nil] at this
      rw [cont_succ h1, h2, List.map_append, List.map_cons, List.map_nil, this]; simp [suf]
    have hc2 : cont σ2 (h0 + 1) p = pre (a.map (cont σ h0)) nd.es ++ cont σ2 h0 c := by
      have := weave_split (a.map (cont σ2 h0)) (cont σ2 h0 c) [] nd.es [] (by simpa using hle)
      rw [List.append_nil] at this
      rw [cont_succ hq2]
      show weave (nd.cs.map (cont σ2 h0)) nd.es = _
      rw [h2, List.map_append, List.map_cons, List.map_nil, this, List.map_congr_left fun z hz => (fa z hz).1]; simp [suf]
    have hct : cont σ2 (h0 + 1) p = cont σ (h0 + 1) p ++ X := by rw [hc2, hc1, i2]; simp
    have hf1 : foot σ (h0 + 1) p = p :: (a.flatMap (foot σ h0) ++ foot σ h0 c) := by rw [foot_succ h1, h2]; simp
    have hf2 : foot σ2 (h0 + 1) p = p :: (a.flatMap (foot σ h0) ++ foot σ2 h0 c) := by
      rw [foot_succ hq2]
      show p :: nd.cs.flatMap (foot σ2 h0) = _
      rw [h2, List.flatMap_append, foot_congr (fun z hz => (fa z hz).2.1)]; simp
    have hsome := foot_some hw
    rw [hf1] at hn hsome
    obtain ⟨m1, m2⟩ := List.nodup_cons.1 hn
    obtain ⟨m3, m4, m5⟩ := List.nodup_append.1 m2
    refine ⟨⟨_, hq2, s1, s2, ?_, fun z hz => ?_⟩, hct, ?_, ?_, ?_⟩
    · rw [hct]; show nd.keys + _ = _; rw [s3]; simp
    · have hz' : z ∈ a ++ [c] := by rw [← h2]; exact hz
      rcases List.mem_append.1 hz' with hz' | hz'
      · exact ⟨(fa z hz').2.2.1 (s4 z (by rw [h2]; simp [hz'])).1, by rw [(fa z hz').2.2.2]; exact (s4 z (by rw [h2]; simp [hz'])).2⟩
      · simp at hz'; subst hz'
        exact ⟨i1, by have := (s4 z hcm).2; omega⟩
    · rw [hf2]
      refine List.nodup_cons.2 ⟨fun hx => ?_, List.nodup_append.2 ⟨m3, i3, fun x hx y hy e => ?_⟩⟩
      · rcases List.mem_append.1 hx with hx | hx
        · exact m1 (by simp [hx])
        · rcases i4 p hx with hx | hx
          · exact hpc hx
          · exact hsome p (by simp) hx
      · subst e
        rcases i4 x hy with hy | hy
        · exact m5 x hx x hy rfl
        · exact hsome x (by simp [hx]) hy
    · intro x hx
      rw [hf2] at hx
      rw [hf1]
      simp only [List.mem_cons, List.mem_append] at hx ⊢
      rcases hx with hx | hx | hx
      · exact .inl (.inl hx)
      · exact .inl (.inr (.inl hx))
      · rcases i4 x hx with hx | hx
        · exact .inl (.inr (.inr hx))
        · exact .inr hx
    · rw [nE_of h1, nE_of hq2]; exact Nat.le_refl _
end Go.Proofs.Qxb6613550a
