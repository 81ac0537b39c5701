/-
  THE TREE IN THE STORE: contents, footprint, shape. Plain: no Go in sight.
-/
import Derived.Test.Qxb6613550aSearch
namespace Go.Proofs.Qxb6613550a

def suf : List (List Ent) → List Ent → List Ent
  | c :: cs, e :: es => e :: (c ++ suf cs es)
  | _, _ => []
def pre : List (List Ent) → List Ent → List Ent
  | c :: cs, e :: es => c ++ e :: pre cs es
  | _, _ => []
def weave : List (List Ent) → List Ent → List Ent
  | c :: cs, es => c ++ suf cs es
  | [], _ => []

theorem suf_ne {l : List (List Ent)} (h : l ≠ []) (e : Ent) (es : List Ent) : suf l (e :: es) = e :: weave l es := by
  cases l with
  | nil => exact absurd rfl h
  | cons c cs => rfl

theorem weave_split (a : List (List Ent)) (c : List Ent) (b : List (List Ent)) (e1 e2 : List Ent) (h : a.length = e1.length) : weave (a ++ c :: b) (e1 ++ e2) = pre a e1 ++ (c ++ suf b e2) := by
  induction a generalizing e1 with
  | nil =>
    cases e1 with
    | nil => rfl
    | cons _ _ => simp at h
  | cons x a ih =>
    cases e1 with
    | nil => simp at h
    | cons e e1 =>
      simp only [List.cons_append, weave, pre]
      rw [suf_ne (by simp), ih e1 (by simpa using h)]
      simp

theorem pre_snoc (a : List (List Ent)) (c : List Ent) (e1 : List Ent) (x : Ent) (h : a.length = e1.length) : pre (a ++ [c]) (e1 ++ [x]) = pre a e1 ++ (c ++ [x]) := by
  induction a generalizing e1 with
  | nil =>
    cases e1 with
    | nil => simp [pre]
    | cons _ _ => simp at h
  | cons y a ih =>
    cases e1 with
    | nil => simp at h
    | cons e e1 =>
      simp only [List.cons_append, pre]
      rw [ih e1 (by simpa using h)]
      simp

theorem suf_snoc (a : List (List Ent)) (c : List Ent) (e1 : List Ent) (x : Ent) (h : a.length = e1.length) : suf (a ++ [c]) (e1 ++ [x]) = suf a e1 ++ (x :: c) := by
  induction a generalizing e1 with
  | nil =>
    cases e1 with
    | nil => simp [suf]
    | cons _ _ => simp at h
  | cons y a ih =>
    cases e1 with
    | nil => simp at h
    | cons e e1 =>
      simp only [List.cons_append, suf]
      rw [ih e1 (by simpa using h)]
      simp

theorem suf_append (a b : List (List Ent)) (e1 e2 : List Ent) (h : a.length = e1.length) : suf (a ++ b) (e1 ++ e2) = suf a e1 ++ suf b e2 := by
  induction a generalizing e1 with
  | nil =>
    cases e1 with
    | nil => rfl
    | cons _ _ => simp at h
  | cons y a ih =>
    cases e1 with
    | nil => simp at h
    | cons e e1 =>
      simp only [List.cons_append, suf]
      rw [ih e1 (by simpa using h)]
      simp

theorem sub_suf (a : List (List Ent)) (e1 : List Ent) (h : a.length = e1.length) : e1.Sublist (suf a e1) := by
  induction a generalizing e1 with
  | nil =>
    cases e1 with
    | nil => exact List.Sublist.slnil
    | cons _ _ => simp at h
  | cons y a ih =>
    cases e1 with
    | nil => simp at h
    | cons e e1 =>
      simp only [suf]
      exact List.Sublist.cons_cons _ ((ih e1 (by simpa using h)).trans (List.sublist_append_right _ _))

theorem sub_weave (a : List (List Ent)) (e1 : List Ent) (h : a.length = e1.length + 1) : e1.Sublist (weave a e1) := by
  cases a with
  | nil => simp at h
  | cons y a => exact (sub_suf a e1 (by simpa using h)).trans (List.sublist_append_right _ _)

theorem Srt.sub {a b : List Ent} (h : Srt b) (s : a.Sublist b) : Srt a := List.Pairwise.sublist s h

theorem pre_le {a : List (List Ent)} {e1 : List Ent} (hs : Srt (pre a e1)) {x : Ent} (hx : x ∈ pre a e1) : ∃ e ∈ e1, x.k ≤ e.k := by
  induction a generalizing e1 with
  | nil => simp [pre] at hx
  | cons y a ih =>
    cases e1 with
    | nil => simp [pre] at hx
    | cons e e1 =>
      simp only [pre] at hs hx
      rcases List.mem_append.1 hx with h | h
      · exact ⟨e, by simp, Int.le_of_lt ((List.pairwise_append.1 hs).2.2 x h e (by simp))⟩
      · rcases List.mem_cons.1 h with rfl | h
        · exact ⟨x, by simp, Int.le_refl _⟩
        · obtain ⟨e', he', hle⟩ := ih (List.Pairwise.of_cons (List.pairwise_append.1 hs).2.1) h
          exact ⟨e', by simp [he'], hle⟩

theorem suf_ge {a : List (List Ent)} {e1 : List Ent} (hs : Srt (suf a e1)) {x : Ent} (hx : x ∈ suf a e1) : ∃ e ∈ e1, e.k ≤ x.k := by
  induction a generalizing e1 with
  | nil => simp [suf] at hx
  | cons y a ih =>
    cases e1 with
    | nil => simp [suf] at hx
    | cons e e1 =>
      simp only [suf] at hs hx
      rcases List.mem_cons.1 hx with rfl | h
      · exact ⟨x, by simp, Int.le_refl _⟩
      · exact ⟨e, by simp, Int.le_of_lt ((List.pairwise_cons.1 hs).1 x h)⟩

/-- A key taken out. -/
def del (k : Int) (l : List Ent) : List Ent := l.filter fun e => !(e.k == k)
def hasK (k : Int) (l : List Ent) : Prop := ∃ e ∈ l, e.k = k

theorem del_append (k : Int) (a b : List Ent) : del k (a ++ b) = del k a ++ del k b := by simp [del]
theorem del_none {k : Int} {l : List Ent} (h : ¬ hasK k l) : del k l = l := by
  unfold del
  rw [List.filter_eq_self]
  intro e he
  simp only [Bool.not_eq_true', beq_eq_false_iff_ne]
  exact fun hk => h ⟨e, he, hk⟩
theorem srt_parts {p c s : List Ent} (h : Srt (p ++ (c ++ s))) : Srt p ∧ Srt c ∧ Srt s ∧ (∀ a ∈ p, ∀ b ∈ c, a.k < b.k) ∧ (∀ a ∈ c, ∀ b ∈ s, a.k < b.k) ∧ (∀ a ∈ p, ∀ b ∈ s, a.k < b.k) := by
  obtain ⟨h1, h2, h3⟩ := List.pairwise_append.1 h
  obtain ⟨h4, h5, h6⟩ := List.pairwise_append.1 h2
  exact ⟨h1, h4, h5, fun a ha b hb => h3 a ha b (by simp [hb]), h6, fun a ha b hb => h3 a ha b (by simp [hb])⟩
theorem del_mid {p c s : List Ent} {k : Int} (h : Srt (p ++ (c ++ s))) (hk : hasK k c) : del k (p ++ (c ++ s)) = p ++ (del k c ++ s) := by
  obtain ⟨h1, h2, h3, h4, h5, h6⟩ := srt_parts h
  obtain ⟨e, he, hek⟩ := hk
  have hp : ¬ hasK k p := by rintro ⟨x, hx, hxk⟩; have := h4 x hx e he; omega
  have hs : ¬ hasK k s := by rintro ⟨x, hx, hxk⟩; have := h5 e he x hx; omega
  rw [del_append, del_append, del_none hp, del_none hs]
theorem del_len {l : List Ent} {k : Int} (h : Srt l) (hk : hasK k l) : (del k l).length + 1 = l.length := by
  induction l with
  | nil => obtain ⟨e, he, _⟩ := hk; simp at he
  | cons x l ih =>
    obtain ⟨e, he, hek⟩ := hk
    rcases List.mem_cons.1 he with rfl | h'
    · have hn : ¬ hasK k l := by
        rintro ⟨y, hy, hyk⟩
        have := (List.pairwise_cons.1 h).1 y hy; omega
      have e1 := del_none hn
      unfold del at e1 ⊢
      rw [List.filter_cons, if_neg (by simp [hek]), e1]; simp
    · have hne : x.k ≠ k := by have := (List.pairwise_cons.1 h).1 e h'; omega
      have := ih (List.Pairwise.of_cons h) ⟨e, h', hek⟩
      unfold del at this ⊢
      rw [List.filter_cons, if_pos (by simp [hne])]; simp; omega
theorem del_sub (k : Int) (l : List Ent) : (del k l).Sublist l := List.filter_sublist

/-! ### Nodes of the store -/
def ents (σ : Sto) (b : Nat) : List Ent := match σ b with | some nd => nd.es | none => []
def kids (σ : Sto) (b : Nat) : List Nat := match σ b with | some nd => nd.cs | none => []
def cont (σ : Sto) : Nat → Nat → List Ent
  | 0, b => ents σ b
  | h + 1, b => weave ((kids σ b).map (cont σ h)) (ents σ b)
def foot (σ : Sto) : Nat → Nat → List Nat
  | 0, b => [b]
  | h + 1, b => b :: (kids σ b).flatMap (foot σ h)
def nE (σ : Sto) (b : Nat) : Nat := (ents σ b).length
def WF (σ : Sto) : Nat → Nat → Prop
  | 0, b => ∃ nd, σ b = some nd ∧ nd.cs = [] ∧ nd.es.length ≤ 31 ∧ nd.keys = 0
  | h + 1, b => ∃ nd, σ b = some nd ∧ nd.cs.length = nd.es.length + 1 ∧ nd.es.length ≤ 31 ∧ nd.keys = (cont σ (h + 1) b).length ∧ ∀ c ∈ nd.cs, WF σ h c ∧ 15 ≤ nE σ c

theorem ents_of {σ : Sto} {b : Nat} {nd : ND} (h : σ b = some nd) : ents σ b = nd.es := by simp [ents, h]
theorem kids_of {σ : Sto} {b : Nat} {nd : ND} (h : σ b = some nd) : kids σ b = nd.cs := by simp [kids, h]
theorem foot_self (σ : Sto) (h b : Nat) : b ∈ foot σ h b := by cases h <;> simp [foot]
theorem foot_cons (σ : Sto) (h b : Nat) : ∃ l, foot σ h b = b :: l := by cases h <;> exact ⟨_, rfl⟩

theorem frame {σ σ' : Sto} : ∀ h b, (∀ x ∈ foot σ h b, σ' x = σ x) → cont σ' h b = cont σ h b ∧ foot σ' h b = foot σ h b ∧ (WF σ h b → WF σ' h b) ∧ nE σ' b = nE σ b := by
  intro h
  induction h with
  | zero =>
    intro b hx
    have e := hx b (foot_self σ 0 b)
    refine ⟨by simp [cont, ents, e], rfl, fun hw => ?_, by simp [nE, ents, e]⟩
    obtain ⟨nd, h1, h2⟩ := hw
    exact ⟨nd, by rw [e]; exact h1, h2⟩
  | succ h ih =>
    intro b hx
    have e := hx b (foot_self σ (h + 1) b)
    have he : ents σ' b = ents σ b := by simp [ents, e]
    have hk : kids σ' b = kids σ b := by simp [kids, e]
    have hc : ∀ c ∈ kids σ b, cont σ' h c = cont σ h c ∧ foot σ' h c = foot σ h c ∧ (WF σ h c → WF σ' h c) ∧ nE σ' c = nE σ c := fun c hc =>
      ih c (fun x hxc => hx x (by simp only [foot]; exact List.mem_cons_of_mem _ (List.mem_flatMap.2 ⟨c, hc, hxc⟩)))
    have hcont : cont σ' (h + 1) b = cont σ (h + 1) b := by
      simp only [cont, he, hk]
      rw [List.map_congr_left fun c hcm => (hc c hcm).1]
    refine ⟨hcont, ?_, fun hw => ?_, by simp [nE, he]⟩
    · simp only [foot, hk]
      congr 1
      simp only [List.flatMap]
      rw [List.map_congr_left fun c hcm => (hc c hcm).2.1]
    · obtain ⟨nd, h1, h2, h3, h4, h5⟩ := hw
      have hkk : kids σ b = nd.cs := kids_of h1
      refine ⟨nd, by rw [e]; exact h1, h2, h3, by rw [hcont]; exact h4, fun c hcm => ?_⟩
      have := hc c (by rw [hkk]; exact hcm)
      exact ⟨this.2.2.1 (h5 c hcm).1, by rw [this.2.2.2]; exact (h5 c hcm).2⟩

theorem WF.get {σ : Sto} {h b : Nat} (hw : WF σ h b) : ∃ nd, σ b = some nd ∧ nd.es.length ≤ 31 ∧ (nd.cs = [] ↔ h = 0) ∧ nd.cs.length ≤ 32 := by
  cases h with
  | zero => obtain ⟨nd, h1, h2, h3, _⟩ := hw; exact ⟨nd, h1, h3, by simp [h2], by simp [h2]⟩
  | succ h =>
    obtain ⟨nd, h1, h2, h3, _⟩ := hw
    have h4 : nd.cs ≠ [] := fun e => by rw [e] at h2; simp at h2
    exact ⟨nd, h1, h3, by simp [h4], by omega⟩
theorem WF.size {σ : Sto} {h b : Nat} (hw : WF σ h b) {nd : ND} (hb : σ b = some nd) : nd.size = (cont σ h b).length := by
  cases h with
  | zero =>
    obtain ⟨nd', h1, h2, h3⟩ := hw
    rw [hb] at h1; cases h1
    simp [ND.size, h2, cont, ents, hb]
  | succ h =>
    obtain ⟨nd', h1, h2, h3, h4, _⟩ := hw
    rw [hb] at h1; cases h1
    have : nd.cs.isEmpty = false := by cases hc : nd.cs with | nil => rw [hc] at h2; simp at h2 | cons _ _ => rfl
    simp [ND.size, this, h4]
end Go.Proofs.Qxb6613550a
