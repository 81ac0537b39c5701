/-
  THE WAYS IN WHICH A DELETE MAKES READY A CHILD. Plain.
-/
import Derived.Test.Qxb6613550aDown
import Derived.Test.Qxb6613550aFillL
import Derived.Test.Qxb6613550aFillM
namespace Go.Proofs.Qxb6613550a
set_option linter.unusedVariables false

/-- What is known at a node that is no leaf and holds the key somewhere below. -/
structure At (σ : Sto) (h b : Nat) (k : Int) (nd : ND) : Prop where
  at1 : σ b = some nd
  wf : WF σ (h + 1) b
  nodup : (foot σ (h + 1) b).Nodup
  srt : Srt (cont σ (h + 1) b)
  has : hasK k (cont σ (h + 1) b)

theorem At.shape {σ : Sto} {h b : Nat} {k : Int} {nd : ND} (t : At σ h b k nd) : nd.cs.length = nd.es.length + 1 ∧ nd.es.length ≤ 31 ∧ nd.keys = (cont σ (h + 1) b).length ∧ ∀ c ∈ nd.cs, WF σ h c ∧ 15 ≤ nE σ c := by
  obtain ⟨nd', h1, h2⟩ := t.wf
  rw [t.at1] at h1; cases h1; exact h2
theorem At.kidsN {σ : Sto} {h b : Nat} {k : Int} {nd : ND} (t : At σ h b k nd) : b ∉ nd.cs.flatMap (foot σ h) ∧ (nd.cs.flatMap (foot σ h)).Nodup := by
  have := t.nodup
  rw [foot_succ t.at1] at this
  exact List.nodup_cons.1 this
theorem At.es_srt {σ : Sto} {h b : Nat} {k : Int} {nd : ND} (t : At σ h b k nd) : Srt nd.es := by
  have hs := t.srt
  rw [cont_succ t.at1] at hs
  exact hs.sub (sub_weave _ _ (by simp [t.shape.1]))

theorem prep_gen {σ σ2 : Sto} {h b : Nat} {k : Int} {nd : ND} (t : At σ h b k nd) {c : Nat} {k' : Int} {nd2 : ND} {a d : List Nat} {e1 e2 : List Ent}
    (at2 : σ2 b = some nd2) (cs : nd2.cs = a ++ c :: d) (es : nd2.es = e1 ++ e2) (la : a.length = e1.length) (ld : d.length = e2.length) (few : nd2.es.length ≤ 31) (ne : nd.es.length ≤ nd2.es.length + 1)
    (kw : ∀ x ∈ nd2.cs, WF σ2 h x ∧ 15 ≤ nE σ2 x) (room : 15 < nE σ2 c) (nodup : (nd2.cs.flatMap (foot σ2 h)).Nodup) (sub : ∀ x, x ∈ nd2.cs.flatMap (foot σ2 h) → x ∈ nd.cs.flatMap (foot σ h))
    (off : ∀ x, x ∉ foot σ (h + 1) b → σ2 x = σ x) (ct : pre (a.map (cont σ2 h)) e1 ++ (del k' (cont σ2 h c) ++ suf (d.map (cont σ2 h)) e2) = del k (cont σ (h + 1) b))
    (keys : nd2.keys = nd.keys - 1) (srt : Srt (cont σ2 h c)) (has : hasK k' (cont σ2 h c)) : Prep σ σ2 h b k c k' nd2 a d e1 e2 := by
  refine ⟨at2, cs, es, la, ld, few, by simpa [nE, ents_of t.at1] using ne, kw, room, ?_, ?_, off, ct, ?_, srt, has⟩
  · rw [foot_succ at2]
    exact List.nodup_cons.2 ⟨fun hb => t.kidsN.1 (sub b hb), nodup⟩
  · intro x hx
    rw [foot_succ at2] at hx
    rw [foot_succ t.at1]
    rcases List.mem_cons.1 hx with rfl | hx
    · simp
    · exact List.mem_cons_of_mem _ (sub x hx)
  · have := del_len t.srt t.has
    rw [keys, t.shape.2.2.1]; omega

/-- Not among the entries: the key is in the child that search names. -/
theorem locate {A : List (List Ent)} {C : List Ent} {D : List (List Ent)} {e1 e2 : List Ent} {k : Int} (hs : Srt (pre A e1 ++ (C ++ suf D e2))) (hk : hasK k (pre A e1 ++ (C ++ suf D e2)))
    (h1 : ∀ e ∈ e1, e.k < k) (h2 : ∀ e ∈ e2, k < e.k) : hasK k C := by
  obtain ⟨p1, p2, p3, _⟩ := srt_parts hs
  obtain ⟨x, hx, hxk⟩ := hk
  rcases List.mem_append.1 hx with hx | hx
  · obtain ⟨e, he, hle⟩ := pre_le p1 hx
    have := h1 e he; omega
  · rcases List.mem_append.1 hx with hx | hx
    · exact ⟨x, hx, hxk⟩
    · obtain ⟨e, he, hle⟩ := suf_ge p3 hx
      have := h2 e he; omega

theorem cut_parts {es : List Ent} {k : Int} {r : Nat} (hs : Srt es) (c : Cut es k r) (nf : fnd es k r = false) : (∀ e ∈ es.take r, e.k < k) ∧ (∀ e ∈ es.drop r, k < e.k) := by
  refine ⟨fun e he => ?_, fun e he => ?_⟩
  · obtain ⟨i, hi, rfl⟩ := List.mem_iff_getElem.1 he
    have hi' : i < es.length := by rw [List.length_take] at hi; omega
    have := c.lo i (by rw [List.length_take] at hi; omega)
    rw [kAt_lt hi'] at this
    simpa using this
  · obtain ⟨i, hi, rfl⟩ := List.mem_iff_getElem.1 he
    rw [List.length_drop] at hi
    have h1 := c.hi (r + i) (by omega) (by omega)
    have hne : kAt es r ≠ k := by
      intro e
      have hr : r < es.length := by omega
      simp [fnd, hr, e] at nf
    have h2 : kAt es r ≤ kAt es (r + i) := by
      rcases Nat.eq_zero_or_pos i with h0 | h0
      · subst h0; exact Int.le_refl _
      · exact Int.le_of_lt (hs.mono (by omega) (by omega))
    have h3 := c.hi r (Nat.le_refl _) (by omega)
    have : k < kAt es (r + i) := by omega
    rw [kAt_lt (by omega)] at this
    simpa using this

/-- The whole, as search parts it. -/
theorem At.parts {σ : Sto} {h b : Nat} {k : Int} {nd : ND} (t : At σ h b k nd) {a d : List Nat} {c : Nat} {e1 e2 : List Ent} (cs : nd.cs = a ++ c :: d) (es : nd.es = e1 ++ e2) (la : a.length = e1.length) :
    cont σ (h + 1) b = pre (a.map (cont σ h)) e1 ++ (cont σ h c ++ suf (d.map (cont σ h)) e2) := by
  rw [cont_succ t.at1, cs, es, List.map_append, List.map_cons, weave_split _ _ _ _ _ (by simpa using la)]

/-- A store that is turned at b alone. -/
theorem At.only {σ : Sto} {h b : Nat} {k : Int} {nd : ND} (t : At σ h b k nd) (nd2 : ND) : ∀ x ∈ nd.cs, cont (upd σ b nd2) h x = cont σ h x ∧ foot (upd σ b nd2) h x = foot σ h x ∧ (WF σ h x → WF (upd σ b nd2) h x) ∧ nE (upd σ b nd2) x = nE σ x := fun x hx =>
  frame h x (fun y hy => upd_other _ _ _ _ (fun e => t.kidsN.1 (List.mem_flatMap.2 ⟨x, hx, e ▸ hy⟩)))

theorem foot_congr {σ σ2 : Sto} {h : Nat} {l : List Nat} (hl : ∀ x ∈ l, foot σ2 h x = foot σ h x) : l.flatMap (foot σ2 h) = l.flatMap (foot σ h) := by
  simp only [List.flatMap]; rw [List.map_congr_left hl]

/-- The child holds enough. -/
theorem prep_enough {σ : Sto} {h b : Nat} {k : Int} {nd : ND} (t : At σ h b k nd) {r : Nat} (c0 : Cut nd.es k r) (nf : fnd nd.es k r = false) {a d : List Nat} {c : Nat} (cs : nd.cs = a ++ c :: d) (ha : a.length = r) (room : 15 < nE σ c) :
    Prep σ (upd σ b { nd with keys := nd.keys - 1 }) h b k c k { nd with keys := nd.keys - 1 } a d (nd.es.take r) (nd.es.drop r) := by
  obtain ⟨s1, s2, s3, s4⟩ := t.shape
  have on := t.only { nd with keys := nd.keys - 1 }
  have hcm : c ∈ nd.cs := by rw [cs]; simp
  have hle := c0.le
  have la : a.length = (nd.es.take r).length := by rw [List.length_take]; omega
  have ld : d.length = (nd.es.drop r).length := by rw [List.length_drop]; rw [cs] at s1; simp at s1; omega
  have hp := t.parts cs (List.take_append_drop r nd.es).symm la
  have hs := t.srt
  have hk := t.has
  rw [hp] at hs hk
  obtain ⟨q1, q2⟩ := cut_parts t.es_srt c0 nf
  have hloc := locate hs hk q1 q2
  have am : ∀ x ∈ a, x ∈ nd.cs := fun x hx => by rw [cs]; simp [hx]
  have dm : ∀ x ∈ d, x ∈ nd.cs := fun x hx => by rw [cs]; simp [hx]
  have hfe := foot_congr (l := nd.cs) (fun x hx => (on x hx).2.1)
  refine prep_gen t (upd_same _ _ _) cs (List.take_append_drop r nd.es).symm la ld s2 (by show _ ≤ nd.es.length + 1; omega) (fun x hx => ⟨(on x hx).2.2.1 (s4 x hx).1, by rw [(on x hx).2.2.2]; exact (s4 x hx).2⟩) (by rw [(on c hcm).2.2.2]; exact room)
    (by rw [hfe]; exact t.kidsN.2) (fun x hx => by rw [hfe] at hx; exact hx) (fun x hx => upd_other _ _ _ _ (fun e => hx (e ▸ foot_self _ _ _))) ?_ rfl (by rw [(on c hcm).1]; exact (srt_parts hs).2.1) (by rw [(on c hcm).1]; exact hloc)
  rw [(on c hcm).1, List.map_congr_left fun x hx => (on x (am x hx)).1, List.map_congr_left fun x hx => (on x (dm x hx)).1, hp, del_mid hs hloc]
end Go.Proofs.Qxb6613550a
