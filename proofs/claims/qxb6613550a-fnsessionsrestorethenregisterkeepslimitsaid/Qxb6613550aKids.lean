/-
  TWO CHILDREN SIDE BY SIDE: merged, or an entry handed over. Plain.
-/
import Derived.Test.Qxb6613550aPrep
namespace Go.Proofs.Qxb6613550a
set_option linter.unusedVariables false

theorem weave_append (A B : List (List Ent)) (e : List Ent) (x : Ent) (e' : List Ent) (h : A.length = e.length + 1) (hB : B ≠ []) : weave (A ++ B) (e ++ x :: e') = weave A e ++ x :: weave B e' := by
  cases A with
  | nil => simp at h
  | cons c A =>
    show c ++ suf (A ++ B) (e ++ x :: e') = (c ++ suf A e) ++ x :: weave B e'
    rw [suf_append _ _ _ _ (by simpa using h), suf_ne hB]
    simp
theorem weave_snoc (A : List (List Ent)) (C : List Ent) (e : List Ent) (x : Ent) (h : A.length = e.length + 1) : weave (A ++ [C]) (e ++ [x]) = weave A e ++ x :: C := by
  rw [weave_append A [C] e x [] h (by simp)]; simp [weave, suf]
theorem weave_cons (M : List Ent) (A : List (List Ent)) (e : List Ent) (x : Ent) (hA : A ≠ []) : weave (M :: A) (x :: e) = M ++ x :: weave A e := by
  show M ++ suf A (x :: e) = _
  rw [suf_ne hA]

theorem foot_tail {σ : Sto} {h b : Nat} {nd : ND} (hb : σ b = some nd) : (foot σ (h + 1) b).tail = nd.cs.flatMap (foot σ h) := by rw [foot_succ hb]; rfl

/-- The kids of a node whose footprint's rest is kept. -/
theorem kids_frame {σ σ2 : Sto} {h b : Nat} {nd : ND} (hb : σ b = some nd) (hag : ∀ z ∈ (foot σ (h + 1) b).tail, σ2 z = σ z) : ∀ y ∈ nd.cs, cont σ2 h y = cont σ h y ∧ foot σ2 h y = foot σ h y ∧ (WF σ h y → WF σ2 h y) ∧ nE σ2 y = nE σ y := fun y hy =>
  frame h y (fun z hz => hag z (by rw [foot_tail hb]; exact List.mem_flatMap.2 ⟨y, hy, hz⟩))

theorem WF.succ {σ : Sto} {h b : Nat} {nd : ND} (hw : WF σ (h + 1) b) (hb : σ b = some nd) : nd.cs.length = nd.es.length + 1 ∧ nd.es.length ≤ 31 ∧ nd.keys = (cont σ (h + 1) b).length ∧ ∀ c ∈ nd.cs, WF σ h c ∧ 15 ≤ nE σ c := by
  obtain ⟨nd', h1, h2⟩ := hw
  rw [hb] at h1; cases h1; exact h2
theorem WF.zero {σ : Sto} {b : Nat} {nd : ND} (hw : WF σ 0 b) (hb : σ b = some nd) : nd.cs = [] ∧ nd.es.length ≤ 31 ∧ nd.keys = 0 := by
  obtain ⟨nd', h1, h2⟩ := hw
  rw [hb] at h1; cases h1; exact h2
theorem WF.ne {σ : Sto} {h b : Nat} {nd : ND} (hw : WF σ (h + 1) b) (hb : σ b = some nd) : nd.cs ≠ [] := fun e => by
  have := (hw.succ hb).1; rw [e] at this; simp at this

theorem mergeKid {σ σ2 : Sto} {h p q : Nat} {n1 n2 n' : ND} {x : Ent} (hp : σ p = some n1) (hq : σ q = some n2) (wp : WF σ h p) (wq : WF σ h q) (h2 : σ2 p = some n')
    (hag : ∀ z, z ∈ (foot σ h p).tail ∨ z ∈ (foot σ h q).tail → σ2 z = σ z) (hes : n'.es = n1.es ++ x :: n2.es) (hcs : n'.cs = n1.cs ++ n2.cs) (hks : n'.keys = mk2 n1 n2) (hfew : n'.es.length ≤ 31) :
    WF σ2 h p ∧ cont σ2 h p = cont σ h p ++ x :: cont σ h q ∧ foot σ2 h p = p :: ((foot σ h p).tail ++ (foot σ h q).tail) := by
  cases h with
  | zero =>
    have z1 := wp.zero hp
    have z2 := wq.zero hq
    refine ⟨⟨n', h2, by rw [hcs, z1.1, z2.1]; rfl, hfew, by rw [hks, mk2, z1.1]; exact z1.2.2⟩, ?_, ?_⟩
    · simp [cont, ents_of h2, ents_of hp, ents_of hq, hes]
    · simp [foot]
  | succ h =>
    obtain ⟨a1, a2, a3, a4⟩ := wp.succ hp
    obtain ⟨b1, b2, b3, b4⟩ := wq.succ hq
    have f1 := kids_frame hp (fun z hz => hag z (.inl hz))
    have f2 := kids_frame hq (fun z hz => hag z (.inr hz))
    have hne := wq.ne hq
    have hct : cont σ2 (h + 1) p = cont σ (h + 1) p ++ x :: cont σ (h + 1) q := by
      rw [cont_succ h2, cont_succ hp, cont_succ hq, hcs, hes, List.map_append, List.map_congr_left fun y hy => (f1 y hy).1, List.map_congr_left fun y hy => (f2 y hy).1]
      exact weave_append _ _ _ _ _ (by simpa using a1) (by simpa using hne)
    refine ⟨⟨n', h2, by rw [hcs, hes]; simp; omega, hfew, ?_, fun y hy => ?_⟩, hct, ?_⟩
    · have : n1.cs.isEmpty = false := by cases hc : n1.cs with | nil => exact absurd hc (wp.ne hp) | cons _ _ => rfl
      rw [hct, hks, mk2, this, a3, b3]; simp; omega
    · rw [hcs] at hy
      rcases List.mem_append.1 hy with hy | hy
      · exact ⟨(f1 y hy).2.2.1 (a4 y hy).1, by rw [(f1 y hy).2.2.2]; exact (a4 y hy).2⟩
      · exact ⟨(f2 y hy).2.2.1 (b4 y hy).1, by rw [(f2 y hy).2.2.2]; exact (b4 y hy).2⟩
    · rw [foot_succ h2, hcs, List.flatMap_append, foot_tail hp, foot_tail hq, foot_congr (fun y hy => (f1 y hy).2.1), foot_congr (fun y hy => (f2 y hy).2.1)]

theorem leftKids {σ σ2 : Sto} {h l c : Nat} {nl nc nl' nc' : ND} {x y : Ent} {ly : List Ent} (hl : σ l = some nl) (hc : σ c = some nc) (wl : WF σ h l) (wc : WF σ h c) (l2 : σ2 l = some nl') (c2 : σ2 c = some nc')
    (hag : ∀ z, z ∈ (foot σ h l).tail ∨ z ∈ (foot σ h c).tail → σ2 z = σ z) (hy : nl.es = ly ++ [y]) (hl' : nl'.es = ly) (hc' : nc'.es = x :: nc.es) (lb : Lb σ nc nl nc' nl') (hc15 : nc.es.length ≤ 15) :
    ∃ M, cont σ h l = cont σ2 h l ++ y :: M ∧ cont σ2 h c = M ++ x :: cont σ h c ∧ WF σ2 h l ∧ WF σ2 h c ∧ (foot σ2 h l ++ foot σ2 h c).Perm (foot σ h l ++ foot σ h c) := by
  cases h with
  | zero =>
    have z1 := wl.zero hl
    have z2 := wc.zero hc
    rcases lb with ⟨b1, b2, b3, b4, b5, b6⟩ | ⟨lc, m, nm, b1, _⟩
    · have := z1.2.1
      rw [hy] at this
      simp at this
      refine ⟨[], by simp [cont, ents_of hl, ents_of l2, hy, hl'], by simp [cont, ents_of hc, ents_of c2, hc'], ⟨nl', l2, b4, by rw [hl']; omega, by rw [b6]; exact z1.2.2⟩, ⟨nc', c2, b3, by rw [hc']; simp; omega, by rw [b5]; exact z2.2.2⟩, by simp [foot]⟩
    · rw [z1.1] at b1; simp at b1
  | succ h =>
    obtain ⟨a1, a2, a3, a4⟩ := wl.succ hl
    obtain ⟨d1, d2, d3, d4⟩ := wc.succ hc
    have f1 := kids_frame hl (fun z hz => hag z (.inl hz))
    have f2 := kids_frame hc (fun z hz => hag z (.inr hz))
    rcases lb with ⟨b1, _⟩ | ⟨lc, m, nm, b1, b2, b3, b4, b5, b6⟩
    · exact absurd b1 (wc.ne hc)
    · have hm : m ∈ nl.cs := by rw [b1]; simp
      have hll : lc.length = ly.length + 1 := by rw [b1, hy] at a1; simp at a1; omega
      have ml : ∀ z ∈ lc, z ∈ nl.cs := fun z hz => by rw [b1]; simp [hz]
      have hsz := (a4 m hm).1.size b2
      have c1 : cont σ (h + 1) l = weave (lc.map (cont σ h)) ly ++ y :: cont σ h m := by
        rw [cont_succ hl, b1, hy, List.map_append]
        exact weave_snoc _ _ _ _ (by simpa using hll)
      have c1' : cont σ2 (h + 1) l = weave (lc.map (cont σ h)) ly := by
        rw [cont_succ l2, b3, hl', List.map_congr_left fun z hz => (f1 z (ml z hz)).1]
      have c2' : cont σ2 (h + 1) c = cont σ h m ++ x :: cont σ (h + 1) c := by
        rw [cont_succ c2, b4, hc', List.map_cons, List.map_congr_left fun z hz => (f2 z hz).1, (f1 m hm).1, cont_succ hc]
        exact weave_cons _ _ _ _ (by simpa using wc.ne hc)
      refine ⟨cont σ h m, by rw [c1', c1], c2', ⟨nl', l2, by rw [b3, hl', hll], by rw [hl']; rw [hy] at a2; simp at a2; omega, ?_, fun z hz => ?_⟩, ⟨nc', c2, by rw [b4, hc']; simp; omega, by rw [hc']; simp; omega, ?_, fun z hz => ?_⟩, ?_⟩
      · have e1 : (cont σ (h + 1) l).length = (cont σ2 (h + 1) l).length + (1 + (cont σ h m).length) := by rw [c1, c1']; simp; omega
        rw [b6, hsz, a3]; omega
      · rw [b3] at hz
        exact ⟨(f1 z (ml z hz)).2.2.1 (a4 z (ml z hz)).1, by rw [(f1 z (ml z hz)).2.2.2]; exact (a4 z (ml z hz)).2⟩
      · have e1 : (cont σ2 (h + 1) c).length = (cont σ (h + 1) c).length + (1 + (cont σ h m).length) := by rw [c2']; simp; omega
        rw [b5, hsz, d3]; omega
      · rw [b4] at hz
        rcases List.mem_cons.1 hz with rfl | hz
        · exact ⟨(f1 z hm).2.2.1 (a4 z hm).1, by rw [(f1 z hm).2.2.2]; exact (a4 z hm).2⟩
        · exact ⟨(f2 z hz).2.2.1 (d4 z hz).1, by rw [(f2 z hz).2.2.2]; exact (d4 z hz).2⟩
      · rw [foot_succ l2, foot_succ c2, foot_succ hl, foot_succ hc, b3, b4, b1, List.flatMap_append, List.flatMap_cons, List.flatMap_cons, List.flatMap_nil, List.append_nil,
          foot_congr (fun z hz => (f1 z (ml z hz)).2.1), foot_congr (fun z hz => (f2 z hz).2.1), (f1 m hm).2.1]
        simp only [List.cons_append, List.append_assoc]
        exact List.Perm.cons _ (List.Perm.append_left _ List.perm_middle.symm)

theorem rightKids {σ σ2 : Sto} {h r c : Nat} {nr nc nr' nc' : ND} {x y : Ent} {ry : List Ent} (hr : σ r = some nr) (hc : σ c = some nc) (wr : WF σ h r) (wc : WF σ h c) (r2 : σ2 r = some nr') (c2 : σ2 c = some nc')
    (hag : ∀ z, z ∈ (foot σ h r).tail ∨ z ∈ (foot σ h c).tail → σ2 z = σ z) (hy : nr.es = y :: ry) (hr' : nr'.es = ry) (hc' : nc'.es = nc.es ++ [x]) (rb : Rb σ nc nr nc' nr') (hc15 : nc.es.length ≤ 15) (hry : 0 < ry.length) :
    ∃ M, cont σ h r = M ++ y :: cont σ2 h r ∧ cont σ2 h c = cont σ h c ++ x :: M ∧ WF σ2 h r ∧ WF σ2 h c ∧ (foot σ2 h c ++ foot σ2 h r).Perm (foot σ h c ++ foot σ h r) := by
  cases h with
  | zero =>
    have z1 := wr.zero hr
    have z2 := wc.zero hc
    rcases rb with ⟨b1, b2, b3, b4, b5, b6⟩ | ⟨rc, m, nm, b1, _⟩
    · have := z1.2.1
      rw [hy] at this
      simp at this
      refine ⟨[], by simp [cont, ents_of hr, ents_of r2, hy, hr'], by simp [cont, ents_of hc, ents_of c2, hc'], ⟨nr', r2, b4, by rw [hr']; omega, by rw [b6]; exact z1.2.2⟩, ⟨nc', c2, b3, by rw [hc']; simp; omega, by rw [b5]; exact z2.2.2⟩, by simp [foot]⟩
    · rw [z1.1] at b1; simp at b1
  | succ h =>
    obtain ⟨a1, a2, a3, a4⟩ := wr.succ hr
    obtain ⟨d1, d2, d3, d4⟩ := wc.succ hc
    have f1 := kids_frame hr (fun z hz => hag z (.inl hz))
    have f2 := kids_frame hc (fun z hz => hag z (.inr hz))
    rcases rb with ⟨b1, _⟩ | ⟨rc, m, nm, b1, b2, b3, b4, b5, b6⟩
    · exact absurd b1 (wc.ne hc)
    · have hm : m ∈ nr.cs := by rw [b1]; simp
      have hll : rc.length = ry.length + 1 := by rw [b1, hy] at a1; simp at a1; omega
      have ml : ∀ z ∈ rc, z ∈ nr.cs := fun z hz => by rw [b1]; simp [hz]
      have hsz := (a4 m hm).1.size b2
      have c1 : cont σ (h + 1) r = cont σ h m ++ y :: weave (rc.map (cont σ h)) ry := by
        rw [cont_succ hr, b1, hy, List.map_cons]
        exact weave_cons _ _ _ _ (by intro e; simp at e; rw [e] at hll; simp at hll)
      have c1' : cont σ2 (h + 1) r = weave (rc.map (cont σ h)) ry := by
        rw [cont_succ r2, b3, hr', List.map_congr_left fun z hz => (f1 z (ml z hz)).1]
      have c2' : cont σ2 (h + 1) c = cont σ (h + 1) c ++ x :: cont σ h m := by
        rw [cont_succ c2, b4, hc', List.map_append, List.map_congr_left fun z hz => (f2 z hz).1, List.map_cons, (f1 m hm).1, cont_succ hc]
        exact weave_snoc _ _ _ _ (by simpa using d1)
      refine ⟨cont σ h m, by rw [c1', c1], c2', ⟨nr', r2, by rw [b3, hr', hll], by rw [hr']; rw [hy] at a2; simp at a2; omega, ?_, fun z hz => ?_⟩, ⟨nc', c2, by rw [b4, hc']; simp; omega, by rw [hc']; simp; omega, ?_, fun z hz => ?_⟩, ?_⟩
      · have e1 : (cont σ (h + 1) r).length = (cont σ2 (h + 1) r).length + (1 + (cont σ h m).length) := by rw [c1, c1']; simp; omega
        rw [b6, hsz, a3]; omega
      · rw [b3] at hz
        exact ⟨(f1 z (ml z hz)).2.2.1 (a4 z (ml z hz)).1, by rw [(f1 z (ml z hz)).2.2.2]; exact (a4 z (ml z hz)).2⟩
      · have e1 : (cont σ2 (h + 1) c).length = (cont σ (h + 1) c).length + (1 + (cont σ h m).length) := by rw [c2']; simp; omega
        rw [b5, hsz, d3]; omega
      · rw [b4] at hz
        rcases List.mem_append.1 hz with hz | hz
        · exact ⟨(f2 z hz).2.2.1 (d4 z hz).1, by rw [(f2 z hz).2.2.2]; exact (d4 z hz).2⟩
        · simp at hz; subst hz
          exact ⟨(f1 z hm).2.2.1 (a4 z hm).1, by rw [(f1 z hm).2.2.2]; exact (a4 z hm).2⟩
      · rw [foot_succ r2, foot_succ c2, foot_succ hr, foot_succ hc, b3, b4, b1, List.flatMap_append, List.flatMap_cons, List.flatMap_cons, List.flatMap_nil, List.append_nil,
          foot_congr (fun z hz => (f1 z (ml z hz)).2.1), foot_congr (fun z hz => (f2 z hz).2.1), (f1 m hm).2.1]
        simp only [List.cons_append, List.append_assoc]
        exact List.Perm.cons _ (List.Perm.append_left _ List.perm_middle)
end Go.Proofs.Qxb6613550a
