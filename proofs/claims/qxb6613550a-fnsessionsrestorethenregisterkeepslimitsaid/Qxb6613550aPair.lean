/-
  THE NODE ABOVE TWO CHILDREN THAT WERE TURNED. Plain.
-/
import Derived.Test.Qxb6613550aKids
namespace Go.Proofs.Qxb6613550a
set_option linter.unusedVariables false

theorem map_frame {σ σ2 : Sto} {h : Nat} {l : List Nat} (ho : ∀ z ∈ l, ∀ u ∈ foot σ h z, σ2 u = σ u) : l.map (cont σ2 h) = l.map (cont σ h) ∧ l.flatMap (foot σ2 h) = l.flatMap (foot σ h) :=
  ⟨List.map_congr_left fun z hz => (frame h z (ho z hz)).1, foot_congr fun z hz => (frame h z (ho z hz)).2.1⟩

theorem srt_mid {p c s : List Ent} (h : Srt (p ++ (c ++ s))) : Srt c := (srt_parts h).2.1

theorem prep_pair {σ σ2 : Sto} {h b : Nat} {k : Int} {nd : ND} (t : At σ h b k nd) {a d : List Nat} {p q : Nat} {e1 e2 : List Ent} {x y : Ent} {nd2 : ND} (cs : nd.cs = a ++ p :: q :: d) (es : nd.es = e1 ++ x :: e2) (la : a.length = e1.length)
    (at2 : σ2 b = some nd2) (cs2 : nd2.cs = nd.cs) (es2 : nd2.es = e1 ++ y :: e2) (keys2 : nd2.keys = nd.keys - 1) (off : ∀ z, z ∉ foot σ (h + 1) b → σ2 z = σ z) (oa : ∀ z ∈ a, ∀ u ∈ foot σ h z, σ2 u = σ u) (od : ∀ z ∈ d, ∀ u ∈ foot σ h z, σ2 u = σ u)
    (hpq : cont σ2 h p ++ y :: cont σ2 h q = cont σ h p ++ x :: cont σ h q) (wp : WF σ2 h p) (wq : WF σ2 h q) (np : 15 ≤ nE σ2 p) (nq : 15 ≤ nE σ2 q) (perm : (foot σ2 h p ++ foot σ2 h q).Perm (foot σ h p ++ foot σ h q)) :
    (hasK k (cont σ2 h q) → 15 < nE σ2 q → Prep σ σ2 h b k q k nd2 (a ++ [p]) d (e1 ++ [y]) e2) ∧ (hasK k (cont σ2 h p) → 15 < nE σ2 p → Prep σ σ2 h b k p k nd2 a (q :: d) e1 (y :: e2)) := by
  obtain ⟨s1, s2, s3, s4⟩ := t.shape
  have ld : d.length = e2.length := by rw [cs, es] at s1; simp at s1; omega
  have ma := map_frame oa
  have md := map_frame od
  have fa : ∀ z ∈ a, WF σ2 h z ∧ 15 ≤ nE σ2 z := fun z hz => by
    have f := frame h z (oa z hz)
    have w := s4 z (by rw [cs]; simp [hz])
    exact ⟨f.2.2.1 w.1, by rw [f.2.2.2]; exact w.2⟩
  have fd : ∀ z ∈ d, WF σ2 h z ∧ 15 ≤ nE σ2 z := fun z hz => by
    have f := frame h z (od z hz)
    have w := s4 z (by rw [cs]; simp [hz])
    exact ⟨f.2.2.1 w.1, by rw [f.2.2.2]; exact w.2⟩
  have kw : ∀ z ∈ nd2.cs, WF σ2 h z ∧ 15 ≤ nE σ2 z := fun z hz => by
    rw [cs2, cs] at hz
    simp only [List.mem_append, List.mem_cons] at hz
    rcases hz with hz | rfl | rfl | hz
    · exact fa z hz
    · exact ⟨wp, np⟩
    · exact ⟨wq, nq⟩
    · exact fd z hz
  have whole := t.parts (e1 := e1) (e2 := x :: e2) cs es la
  rw [List.map_cons, show suf (cont σ h q :: d.map (cont σ h)) (x :: e2) = x :: (cont σ h q ++ suf (d.map (cont σ h)) e2) from rfl] at whole
  have whole2 : cont σ (h + 1) b = pre (a.map (cont σ h)) e1 ++ (cont σ2 h p ++ y :: (cont σ2 h q ++ suf (d.map (cont σ h)) e2)) := by
    rw [whole]
    have e := congrArg (fun l => pre (a.map (cont σ h)) e1 ++ (l ++ suf (d.map (cont σ h)) e2)) hpq
    simpa using e.symm
  have hperm : (nd2.cs.flatMap (foot σ2 h)).Perm (nd.cs.flatMap (foot σ h)) := by
    rw [cs2, cs]
    simp only [List.flatMap_append, List.flatMap_cons]
    rw [ma.2, md.2, ← List.append_assoc (foot σ2 h p), ← List.append_assoc (foot σ h p)]
    exact List.Perm.append_left _ (List.Perm.append_right _ perm)
  have few2 : nd2.es.length ≤ 31 := by rw [es2]; rw [es] at s2; simpa using s2
  have ne2 : nd.es.length ≤ nd2.es.length + 1 := by rw [es2, es]; simp
  have hs := t.srt
  refine ⟨fun hk room => ?_, fun hk room => ?_⟩
  · have w3 : cont σ (h + 1) b = (pre (a.map (cont σ h)) e1 ++ (cont σ2 h p ++ [y])) ++ (cont σ2 h q ++ suf (d.map (cont σ h)) e2) := by rw [whole2]; simp
    rw [w3] at hs
    refine prep_gen t at2 (by rw [cs2, cs]; simp) (by rw [es2]; simp) (by simp [la]) ld few2 ne2 kw room ((hperm.nodup_iff).2 t.kidsN.2) (fun z hz => hperm.subset hz) off ?_ keys2 (srt_mid hs) hk
    rw [w3, del_mid hs hk, List.map_append, ma.1, md.1]
    rw [show [p].map (cont σ2 h) = [cont σ2 h p] from rfl, pre_snoc _ _ _ _ (by simp [la])]
  · have w3 : cont σ (h + 1) b = pre (a.map (cont σ h)) e1 ++ (cont σ2 h p ++ (y :: (cont σ2 h q ++ suf (d.map (cont σ h)) e2))) := whole2
    rw [w3] at hs
    refine prep_gen t at2 (by rw [cs2, cs]) es2 la (by simp [ld]) few2 ne2 kw room ((hperm.nodup_iff).2 t.kidsN.2) (fun z hz => hperm.subset hz) off ?_ keys2 (srt_mid hs) hk
    rw [w3, del_mid hs hk, List.map_cons, ma.1, md.1]
    rfl

theorem prep_merged {σ σ2 : Sto} {h b : Nat} {k : Int} {nd : ND} (t : At σ h b k nd) {a d : List Nat} {p q : Nat} {e1 e2 : List Ent} {x : Ent} {nd2 : ND} (cs : nd.cs = a ++ p :: q :: d) (es : nd.es = e1 ++ x :: e2) (la : a.length = e1.length)
    (at2 : σ2 b = some nd2) (cs2 : nd2.cs = a ++ p :: d) (es2 : nd2.es = e1 ++ e2) (keys2 : nd2.keys = nd.keys - 1) (off : ∀ z, z ∉ foot σ (h + 1) b → σ2 z = σ z) (oa : ∀ z ∈ a, ∀ u ∈ foot σ h z, σ2 u = σ u) (od : ∀ z ∈ d, ∀ u ∈ foot σ h z, σ2 u = σ u)
    (hp : cont σ2 h p = cont σ h p ++ x :: cont σ h q) (wp : WF σ2 h p) (np : 15 < nE σ2 p) (hf : foot σ2 h p = p :: ((foot σ h p).tail ++ (foot σ h q).tail)) (hk : hasK k (cont σ2 h p)) :
    Prep σ σ2 h b k p k nd2 a d e1 e2 := by
  obtain ⟨s1, s2, s3, s4⟩ := t.shape
  have ld : d.length = e2.length := by rw [cs, es] at s1; simp at s1; omega
  have ma := map_frame oa
  have md := map_frame od
  have kw : ∀ z ∈ nd2.cs, WF σ2 h z ∧ 15 ≤ nE σ2 z := fun z hz => by
    rw [cs2] at hz
    simp only [List.mem_append, List.mem_cons] at hz
    rcases hz with hz | rfl | hz
    · have f := frame h z (oa z hz)
      have w := s4 z (by rw [cs]; simp [hz])
      exact ⟨f.2.2.1 w.1, by rw [f.2.2.2]; exact w.2⟩
    · exact ⟨wp, by omega⟩
    · have f := frame h z (od z hz)
      have w := s4 z (by rw [cs]; simp [hz])
      exact ⟨f.2.2.1 w.1, by rw [f.2.2.2]; exact w.2⟩
  have whole := t.parts (e1 := e1) (e2 := x :: e2) cs es la
  rw [List.map_cons, show suf (cont σ h q :: d.map (cont σ h)) (x :: e2) = x :: (cont σ h q ++ suf (d.map (cont σ h)) e2) from rfl] at whole
  have w3 : cont σ (h + 1) b = pre (a.map (cont σ h)) e1 ++ (cont σ2 h p ++ suf (d.map (cont σ h)) e2) := by rw [whole, hp]; simp
  have hs := t.srt
  rw [w3] at hs
  have hsub : (nd2.cs.flatMap (foot σ2 h)).Sublist (nd.cs.flatMap (foot σ h)) := by
    rw [cs2, cs]
    simp only [List.flatMap_append, List.flatMap_cons]
    rw [ma.2, md.2, hf]
    refine List.Sublist.append_left ?_ _
    obtain ⟨lp, hlp⟩ := foot_cons σ h p
    obtain ⟨lq, hlq⟩ := foot_cons σ h q
    rw [hlp, hlq]
    simp only [List.tail_cons, List.cons_append, List.append_assoc]
    refine List.Sublist.cons_cons _ (List.Sublist.append_left ?_ _)
    exact List.Sublist.cons _ (List.Sublist.refl _)
  refine prep_gen t at2 cs2 es2 la ld (by rw [es2]; rw [es] at s2; simp at s2 ⊢; omega) (by rw [es2, es]; simp; omega) kw np (t.kidsN.2.sublist hsub) (fun z hz => hsub.subset hz) off ?_ keys2 (srt_mid hs) hk
  rw [w3, del_mid hs hk, ma.1, md.1]

/-- The entry gives way to the one before it. -/
theorem prep_pred {σ : Sto} {h b : Nat} {k : Int} {nd : ND} (t : At σ h b k nd) {a d : List Nat} {p q : Nat} {e1 e2 : List Ent} {x y : Ent} {Pi : List Ent} (cs : nd.cs = a ++ p :: q :: d) (es : nd.es = e1 ++ x :: e2) (la : a.length = e1.length) (hx : x.k = k)
    (hy : cont σ h p = Pi ++ [y]) (room : 15 < nE σ p) (nd2 : ND) (cs2 : nd2.cs = nd.cs) (es2 : nd2.es = e1 ++ y :: e2) (keys2 : nd2.keys = nd.keys - 1) : Prep σ (upd σ b nd2) h b k p y.k nd2 a (q :: d) e1 (y :: e2) := by
  obtain ⟨s1, s2, s3, s4⟩ := t.shape
  have ld : d.length = e2.length := by rw [cs, es] at s1; simp at s1; omega
  have on := t.only nd2
  have pm : p ∈ nd.cs := by rw [cs]; simp
  have am : ∀ z ∈ a, z ∈ nd.cs := fun z hz => by rw [cs]; simp [hz]
  have dm : ∀ z ∈ q :: d, z ∈ nd.cs := fun z hz => by rw [cs]; simp at hz ⊢; rcases hz with h | h <;> simp [h]
  have hfe := foot_congr (l := nd.cs) (fun z hz => (on z hz).2.1)
  have whole := t.parts (e1 := e1) (e2 := x :: e2) cs es la
  rw [List.map_cons, show suf (cont σ h q :: d.map (cont σ h)) (x :: e2) = x :: (cont σ h q ++ suf (d.map (cont σ h)) e2) from rfl] at whole
  have hs := t.srt
  have hs1 := hs
  rw [whole] at hs1
  have hsp : Srt (Pi ++ [y]) := by rw [← hy]; exact srt_mid hs1
  refine prep_gen t (upd_same _ _ _) (by rw [cs2, cs]) es2 la (by simp [ld]) (by rw [es2]; rw [es] at s2; simpa using s2) (by rw [es2, es]; simp) (fun z hz => by
      rw [cs2] at hz; exact ⟨(on z hz).2.2.1 (s4 z hz).1, by rw [(on z hz).2.2.2]; exact (s4 z hz).2⟩) (by rw [(on p pm).2.2.2]; exact room) (by rw [cs2, hfe]; exact t.kidsN.2) (fun z hz => by rw [cs2, hfe] at hz; exact hz)
    (fun z hz => upd_other _ _ _ _ (fun e => hz (e ▸ foot_self _ _ _))) ?_ keys2 (by rw [(on p pm).1, hy]; exact hsp) (by rw [(on p pm).1, hy]; exact ⟨y, by simp, rfl⟩)
  rw [(on p pm).1, List.map_congr_left fun z hz => (on z (am z hz)).1, List.map_congr_left fun z hz => (on z (dm z hz)).1, whole, hy]
  have h1 : del y.k (Pi ++ [y]) = Pi := by
    have := del_mid (p := Pi) (c := [y]) (s := []) (k := y.k) (by simpa using hsp) ⟨y, by simp, rfl⟩
    simp [del] at this
    rw [del]; simpa using this
  have h2 : pre (a.map (cont σ h)) e1 ++ (Pi ++ [y] ++ x :: (cont σ h q ++ suf (d.map (cont σ h)) e2)) = (pre (a.map (cont σ h)) e1 ++ (Pi ++ [y])) ++ ([x] ++ (cont σ h q ++ suf (d.map (cont σ h)) e2)) := by simp
  rw [h1, h2]
  rw [whole, hy, h2] at hs
  rw [del_mid hs ⟨x, by simp, hx⟩]
  have h3 : del k [x] = [] := by simp [del, hx]
  rw [h3]
  simp [suf]

/-- The entry gives way to the one behind it. -/
theorem prep_succ {σ : Sto} {h b : Nat} {k : Int} {nd : ND} (t : At σ h b k nd) {a d : List Nat} {p q : Nat} {e1 e2 : List Ent} {x y : Ent} {Qi : List Ent} (cs : nd.cs = a ++ p :: q :: d) (es : nd.es = e1 ++ x :: e2) (la : a.length = e1.length) (hx : x.k = k)
    (hy : cont σ h q = y :: Qi) (room : 15 < nE σ q) (nd2 : ND) (cs2 : nd2.cs = nd.cs) (es2 : nd2.es = e1 ++ y :: e2) (keys2 : nd2.keys = nd.keys - 1) : Prep σ (upd σ b nd2) h b k q y.k nd2 (a ++ [p]) d (e1 ++ [y]) e2 := by
  obtain ⟨s1, s2, s3, s4⟩ := t.shape
  have ld : d.length = e2.length := by rw [cs, es] at s1; simp at s1; omega
  have on := t.only nd2
  have pm : p ∈ nd.cs := by rw [cs]; simp
  have qm : q ∈ nd.cs := by rw [cs]; simp
  have am : ∀ z ∈ a ++ [p], z ∈ nd.cs := fun z hz => by rw [cs]; simp at hz ⊢; rcases hz with h | h <;> simp [h]
  have dm : ∀ z ∈ d, z ∈ nd.cs := fun z hz => by rw [cs]; simp [hz]
  have hfe := foot_congr (l := nd.cs) (fun z hz => (on z hz).2.1)
  have whole := t.parts (e1 := e1) (e2 := x :: e2) cs es la
  rw [List.map_cons, show suf (cont σ h q :: d.map (cont σ h)) (x :: e2) = x :: (cont σ h q ++ suf (d.map (cont σ h)) e2) from rfl] at whole
  have hs := t.srt
  have h0 : pre (a.map (cont σ h)) e1 ++ (cont σ h p ++ x :: (cont σ h q ++ suf (d.map (cont σ h)) e2)) = (pre (a.map (cont σ h)) e1 ++ (cont σ h p ++ [x])) ++ (cont σ h q ++ suf (d.map (cont σ h)) e2) := by simp
  have hs1 := hs
  rw [whole, h0] at hs1
  have hsq : Srt (y :: Qi) := by rw [← hy]; exact srt_mid hs1
  refine prep_gen t (upd_same _ _ _) (by rw [cs2, cs]; simp) (by rw [es2]; simp) (by simp [la]) ld (by rw [es2]; rw [es] at s2; simpa using s2) (by rw [es2, es]; simp) (fun z hz => by
      rw [cs2] at hz; exact ⟨(on z hz).2.2.1 (s4 z hz).1, by rw [(on z hz).2.2.2]; exact (s4 z hz).2⟩) (by rw [(on q qm).2.2.2]; exact room) (by rw [cs2, hfe]; exact t.kidsN.2) (fun z hz => by rw [cs2, hfe] at hz; exact hz)
    (fun z hz => upd_other _ _ _ _ (fun e => hz (e ▸ foot_self _ _ _))) ?_ keys2 (by rw [(on q qm).1, hy]; exact hsq) (by rw [(on q qm).1, hy]; exact ⟨y, by simp, rfl⟩)
  rw [(on q qm).1, List.map_congr_left fun z hz => (on z (am z hz)).1, List.map_congr_left fun z hz => (on z (dm z hz)).1, whole, hy]
  have h1 : del y.k (y :: Qi) = Qi := by
    have := del_mid (p := []) (c := [y]) (s := Qi) (k := y.k) (by simpa using hsq) ⟨y, by simp, rfl⟩
    simp [del] at this
    rw [del]; simpa using this
  have h2 : pre (a.map (cont σ h)) e1 ++ (cont σ h p ++ x :: (y :: Qi ++ suf (d.map (cont σ h)) e2)) = (pre (a.map (cont σ h)) e1 ++ cont σ h p) ++ ([x] ++ (y :: Qi ++ suf (d.map (cont σ h)) e2)) := by simp
  rw [h1, h2]
  rw [whole, hy, h2] at hs
  rw [del_mid hs ⟨x, by simp, hx⟩]
  have h3 : del k [x] = [] := by simp [del, hx]
  rw [h3, List.map_append, show [p].map (cont σ h) = [cont σ h p] from rfl, pre_snoc _ _ _ _ (by simp [la])]
  simp
end Go.Proofs.Qxb6613550a
