/-
  A DELETE GOES DOWN ONE STOREY: what a change of one child's tree makes of the whole. Plain.
-/
import Derived.Test.Qxb6613550aTree
namespace Go.Proofs.Qxb6613550a

/-- σ' is σ with the tree at b turned into one of the contents L. -/
structure Sub (σ σ' : Sto) (h b : Nat) (L : List Ent) : Prop where
  off : ∀ x, x ∉ foot σ h b → σ' x = σ x
  wf : WF σ' h b
  ne : nE σ b ≤ nE σ' b + 1
  ct : cont σ' h b = L
  ft : ∀ x, x ∈ foot σ' h b → x ∈ foot σ h b
  nd : (foot σ' h b).Nodup

/-- σ2 is σ made ready: the key k' is to be taken out of child c of b. -/
structure Prep (σ σ2 : Sto) (h b : Nat) (k : Int) (c : Nat) (k' : Int) (nd2 : ND) (a d : List Nat) (e1 e2 : List Ent) : Prop where
  at2 : σ2 b = some nd2
  cs : nd2.cs = a ++ c :: d
  es : nd2.es = e1 ++ e2
  la : a.length = e1.length
  ld : d.length = e2.length
  few : nd2.es.length ≤ 31
  ne : nE σ b ≤ nd2.es.length + 1
  kw : ∀ x ∈ nd2.cs, WF σ2 h x ∧ 15 ≤ nE σ2 x
  room : 15 < nE σ2 c
  nodup : (foot σ2 (h + 1) b).Nodup
  sub : ∀ x, x ∈ foot σ2 (h + 1) b → x ∈ foot σ (h + 1) b
  off : ∀ x, x ∉ foot σ (h + 1) b → σ2 x = σ x
  ct : pre (a.map (cont σ2 h)) e1 ++ (del k' (cont σ2 h c) ++ suf (d.map (cont σ2 h)) e2) = del k (cont σ (h + 1) b)
  keys : nd2.keys = (del k (cont σ (h + 1) b)).length
  srt : Srt (cont σ2 h c)
  has : hasK k' (cont σ2 h c)

theorem nodup_kids {σ : Sto} {h : Nat} {a d : List Nat} {c : Nat} (hn : ((a ++ c :: d).flatMap (foot σ h)).Nodup) :
    (∀ x ∈ a, ∀ y ∈ foot σ h x, y ∉ foot σ h c) ∧ (∀ x ∈ d, ∀ y ∈ foot σ h x, y ∉ foot σ h c) ∧ (foot σ h c).Nodup := by
  simp only [List.flatMap_append, List.flatMap_cons] at hn
  obtain ⟨h1, h2, h3⟩ := List.nodup_append.1 hn
  obtain ⟨h4, h5, h6⟩ := List.nodup_append.1 h2
  refine ⟨fun x hx y hy hyc => ?_, fun x hx y hy hyc => ?_, h4⟩
  · exact h3 y (List.mem_flatMap.2 ⟨x, hx, hy⟩) y (by simp [hyc]) rfl
  · exact h6 y hyc y (List.mem_flatMap.2 ⟨x, hx, hy⟩) rfl

theorem foot_succ {σ : Sto} {h b : Nat} {nd : ND} (hb : σ b = some nd) : foot σ (h + 1) b = b :: nd.cs.flatMap (foot σ h) := by
  simp [foot, kids_of hb]
theorem cont_succ {σ : Sto} {h b : Nat} {nd : ND} (hb : σ b = some nd) : cont σ (h + 1) b = weave (nd.cs.map (cont σ h)) nd.es := by
  simp [cont, kids_of hb, ents_of hb]

theorem down {σ σ2 σ' : Sto} {h b : Nat} {k : Int} {c : Nat} {k' : Int} {nd2 : ND} {a d : List Nat} {e1 e2 : List Ent} (p : Prep σ σ2 h b k c k' nd2 a d e1 e2)
    (s : Sub σ2 σ' h c (del k' (cont σ2 h c))) : Sub σ σ' (h + 1) b (del k (cont σ (h + 1) b)) := by
  have hf2 := foot_succ (h := h) p.at2
  have hn := p.nodup
  rw [hf2, p.cs] at hn
  obtain ⟨hbn, hfn⟩ := List.nodup_cons.1 hn
  obtain ⟨da, dd, hcn⟩ := nodup_kids hfn
  have hbc : b ∉ foot σ2 h c := fun hb => hbn (List.mem_flatMap.2 ⟨c, by simp, hb⟩)
  have hb' : σ' b = some nd2 := by rw [s.off b hbc]; exact p.at2
  have fa : ∀ x ∈ a, cont σ' h x = cont σ2 h x ∧ foot σ' h x = foot σ2 h x ∧ (WF σ2 h x → WF σ' h x) ∧ nE σ' x = nE σ2 x := fun x hx =>
    frame h x (fun y hy => s.off y (da x hx y hy))
  have fd : ∀ x ∈ d, cont σ' h x = cont σ2 h x ∧ foot σ' h x = foot σ2 h x ∧ (WF σ2 h x → WF σ' h x) ∧ nE σ' x = nE σ2 x := fun x hx =>
    frame h x (fun y hy => s.off y (dd x hx y hy))
  have hct : cont σ' (h + 1) b = del k (cont σ (h + 1) b) := by
    rw [cont_succ hb', p.cs, p.es, List.map_append, List.map_cons, weave_split _ _ _ _ _ (by simp [p.la])]
    rw [List.map_congr_left fun x hx => (fa x hx).1, List.map_congr_left fun x hx => (fd x hx).1, s.ct]
    exact p.ct
  have hfoot : foot σ' (h + 1) b = b :: (a.flatMap (foot σ2 h) ++ (foot σ' h c ++ d.flatMap (foot σ2 h))) := by
    rw [foot_succ hb', p.cs]
    simp only [List.flatMap_append, List.flatMap_cons]
    rw [show a.flatMap (foot σ' h) = a.flatMap (foot σ2 h) by simp only [List.flatMap]; rw [List.map_congr_left fun x hx => (fa x hx).2.1]]
    rw [show d.flatMap (foot σ' h) = d.flatMap (foot σ2 h) by simp only [List.flatMap]; rw [List.map_congr_left fun x hx => (fd x hx).2.1]]
  have hf2' : foot σ2 (h + 1) b = b :: (a.flatMap (foot σ2 h) ++ (foot σ2 h c ++ d.flatMap (foot σ2 h))) := by
    rw [hf2, p.cs]; simp
  have hft : ∀ x, x ∈ foot σ' (h + 1) b → x ∈ foot σ2 (h + 1) b := by
    intro x hx
    rw [hfoot] at hx
    rw [hf2']
    simp only [List.mem_cons, List.mem_append] at hx ⊢
    rcases hx with hx | hx | hx | hx
    · exact .inl hx
    · exact .inr (.inl hx)
    · exact .inr (.inr (.inl (s.ft x hx)))
    · exact .inr (.inr (.inr hx))
  refine ⟨fun x hx => ?_, ?_, ?_, hct, fun x hx => p.sub x (hft x hx), ?_⟩
  · have h1 : x ∉ foot σ2 h c := fun hxc => hx (p.sub x (by rw [hf2']; simp [hxc]))
    rw [s.off x h1, p.off x hx]
  · refine ⟨nd2, hb', by rw [p.cs, p.es]; simp [p.la, p.ld]; omega, p.few, by rw [hct]; exact p.keys, fun x hx => ?_⟩
    have hk := p.kw x hx
    rw [p.cs] at hx
    rcases List.mem_append.1 hx with hx | hx
    · exact ⟨(fa x hx).2.2.1 hk.1, by rw [(fa x hx).2.2.2]; exact hk.2⟩
    · rcases List.mem_cons.1 hx with rfl | hx
      · refine ⟨s.wf, ?_⟩
        have := s.ne; have := p.room; omega
      · exact ⟨(fd x hx).2.2.1 hk.1, by rw [(fd x hx).2.2.2]; exact hk.2⟩
  · have : nE σ' b = nd2.es.length := by simp [nE, ents_of hb']
    rw [this]; exact p.ne
  · rw [hfoot]
    have hN := p.nodup
    rw [hf2'] at hN
    obtain ⟨n1, n2⟩ := List.nodup_cons.1 hN
    obtain ⟨n3, n4, n5⟩ := List.nodup_append.1 n2
    obtain ⟨n6, n7, n8⟩ := List.nodup_append.1 n4
    refine List.nodup_cons.2 ⟨fun hb => n1 ?_, List.nodup_append.2 ⟨n3, List.nodup_append.2 ⟨s.nd, n7, fun x hx y hy => n8 x (s.ft x hx) y hy⟩, fun x hx y hy => ?_⟩⟩
    · simp only [List.mem_append] at hb ⊢
      rcases hb with hb | hb | hb
      · exact .inl hb
      · exact .inr (.inl (s.ft b hb))
      · exact .inr (.inr hb)
    · refine n5 x hx y ?_
      simp only [List.mem_append] at hy ⊢
      rcases hy with hy | hy
      · exact .inl (s.ft y hy)
      · exact .inr hy
end Go.Proofs.Qxb6613550a
