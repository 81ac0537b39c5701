/-
  Restore, the plain part: the map of clients and the contents of the tree.
-/
import Derived.Test.Qxb6613550aUse
import Derived.Test.Qxb6613550aBuild
namespace Go.Proofs.Qxb6613550a
open Go.RowKit Go.Maps
set_option linter.unusedVariables false

/-- The clients' map D and the contents L when the first k clients of xs have come. -/
structure Rel (D : DataW Unit) (L : List Ent) (xs : List Int) (k : Nat) : Prop where
  isMap : IsMap D
  has : ∀ x, Maps.has D (.int .u64 x) = hasX (xs.take k) x
  atk : ∀ e ∈ L, D.atKey (.int .u64 e.c) (.lit (.int .u64 0)) = .lit (.int .u64 e.k)
  mem : ∀ x, hasX (xs.take k) x = true → ∃ e ∈ L, e.c = x
  cl : ∀ e ∈ L, hasX (xs.take k) e.c = true
  len : L.length = dcTo xs k

theorem Rel.start (xs : List Int) : Rel (.map []) [] xs 0 :=
  ⟨isMap_empty, fun x => by simp [hasX, has_eq], fun e he => by simp at he, fun x hx => by simp [hasX] at hx, fun e he => by simp at he, rfl⟩

theorem lit_ne {x y : Int} (h : x ≠ y) : (Lit.int .u64 x) ≠ (Lit.int .u64 y) := fun e => by cases e; exact h rfl

theorem has_step {D : DataW Unit} {xs : List Int} {k : Nat} (hm : IsMap D) (h : ∀ x, Maps.has D (.int .u64 x) = hasX (xs.take k) x) (hk : k < xs.length) {c : Int} (hc : xs.getD k 0 = c) (d : DataW Unit) :
    ∀ x, Maps.has (D.put (.int .u64 c) d) (.int .u64 x) = hasX (xs.take (k + 1)) x := by
  intro x
  rw [hasX_take hk, hc]
  by_cases e : x = c
  · subst e; rw [has_put_same hm (k := .int .u64 x) trivial]; simp
  · rw [has_put_other (lit_ne e), h x]
    have : (c == x) = false := by simp; exact fun h => e h.symm
    rw [this]; simp

theorem Rel.new {D : DataW Unit} {L : List Ent} {xs : List Int} {k : Nat} (h : Rel D L xs k) (hk : k < xs.length) {c : Int} (hc : xs.getD k 0 = c) (hno : hasX (xs.take k) c = false) (u s : Int) :
    Rel (D.put (.int .u64 c) (.lit (.int .u64 u))) (L ++ [⟨u, c, s⟩]) xs (k + 1) := by
  refine ⟨h.isMap.put _ _, has_step h.isMap h.has hk hc _, fun e he => ?_, fun x hx => ?_, fun e he => ?_, ?_⟩
  · rcases List.mem_append.1 he with he | he
    · have hne : e.c ≠ c := fun e' => by have := h.cl e he; rw [e', hno] at this; cases this
      rw [atKey_put_other (lit_ne hne)]; exact h.atk e he
    · simp at he; subst he; exact atKey_put_same (k := .int .u64 c) h.isMap trivial _ _
  · rw [hasX_take hk, hc, Bool.or_eq_true] at hx
    rcases hx with hx | hx
    · obtain ⟨e, he, hec⟩ := h.mem x hx; exact ⟨e, by simp [he], hec⟩
    · exact ⟨⟨u, c, s⟩, by simp, by simpa using hx⟩
  · rw [hasX_take hk, hc]
    rcases List.mem_append.1 he with he | he
    · rw [h.cl e he]; rfl
    · simp at he; subst he; simp
  · simp only [dcTo]; rw [hc, hno, ← h.len]; simp

theorem key_one {L : List Ent} (hs : Srt L) {a b : Ent} (ha : a ∈ L) (hb : b ∈ L) (h : a.k = b.k) : a = b := by
  obtain ⟨i, hi, rfl⟩ := List.getElem_of_mem ha
  obtain ⟨j, hj, rfl⟩ := List.getElem_of_mem hb
  rcases Nat.lt_trichotomy i j with h1 | h1 | h1
  · have := List.pairwise_iff_getElem.1 hs i j hi hj h1; omega
  · subst h1; rfl
  · have := List.pairwise_iff_getElem.1 hs j i hj hi h1; omega

theorem Rel.found {D : DataW Unit} {L : List Ent} {xs : List Int} {k : Nat} (h : Rel D L xs k) {c q : Int} (hyes : hasX (xs.take k) c = true) (hq : D.atKey (.int .u64 c) (.lit (.int .u64 0)) = .lit (.int .u64 q)) : ∃ e ∈ L, e.c = c ∧ e.k = q := by
  obtain ⟨e, he, hec⟩ := h.mem c hyes
  have h1 := h.atk e he
  rw [hec, hq] at h1
  cases h1
  exact ⟨e, he, hec, rfl⟩

theorem Rel.old {D : DataW Unit} {L : List Ent} {xs : List Int} {k : Nat} (h : Rel D L xs k) (hs : Srt L) (hk : k < xs.length) {c q : Int} (hc : xs.getD k 0 = c) (hyes : hasX (xs.take k) c = true) (hq : D.atKey (.int .u64 c) (.lit (.int .u64 0)) = .lit (.int .u64 q)) (u s : Int) :
    Rel (D.put (.int .u64 c) (.lit (.int .u64 u))) (del q L ++ [⟨u, c, s⟩]) xs (k + 1) := by
  obtain ⟨e0, he0, hc0, hk0⟩ := h.found hyes hq
  have hdel : ∀ e ∈ del q L, e ∈ L ∧ e.k ≠ q := fun e he => by
    unfold del at he
    rw [List.mem_filter] at he
    exact ⟨he.1, by simpa using he.2⟩
  refine ⟨h.isMap.put _ _, has_step h.isMap h.has hk hc _, fun e he => ?_, fun x hx => ?_, fun e he => ?_, ?_⟩
  · rcases List.mem_append.1 he with he | he
    · obtain ⟨h1, h2⟩ := hdel e he
      have hne : e.c ≠ c := fun e' => by
        have h3 := h.atk e h1
        rw [e', hq] at h3; cases h3; exact h2 rfl
      rw [atKey_put_other (lit_ne hne)]; exact h.atk e h1
    · simp at he; subst he; exact atKey_put_same (k := .int .u64 c) h.isMap trivial _ _
  · by_cases hxc : x = c
    · exact ⟨⟨u, c, s⟩, by simp, hxc.symm⟩
    · rw [hasX_take hk, hc, Bool.or_eq_true] at hx
      rcases hx with hx | hx
      · obtain ⟨e, he, hec⟩ := h.mem x hx
        refine ⟨e, ?_, hec⟩
        have hkq : e.k ≠ q := fun e' => by
          have := key_one hs he he0 (by rw [e', hk0])
          rw [this, hc0] at hec; exact hxc hec.symm
        have : e ∈ del q L := by unfold del; rw [List.mem_filter]; exact ⟨he, by simpa using hkq⟩
        simp [this]
      · exact absurd (by simpa using hx) (fun h => hxc (Eq.symm h))
  · rw [hasX_take hk, hc]
    rcases List.mem_append.1 he with he | he
    · rw [h.cl e (hdel e he).1]; rfl
    · simp at he; subst he; simp
  · have h1 := del_len hs (k := q) ⟨e0, he0, hk0⟩
    simp only [dcTo]; rw [hc, hyes, ← h.len]; simp; omega

theorem run_makeMap_hint (n : Int) (w : World) : (Instr.makeMap 32 (some (.int .i64 n))).run Try.prog w = .ok (.map (some w.heap.size)) (w.alloc (.map #[] 0)) := by
  simp [Instr.makeMap, run_underlying Try.underlying32, asInt, asIntOf, Result.andThen]
end Go.Proofs.Qxb6613550a
