/-
  Map.fill IN THE TREE: whatever way it takes, the child is ready for the delete.
-/
import Derived.Test.Qxb6613550aPair
namespace Go.Proofs.Qxb6613550a
open Go.RowKit
set_option linter.unusedVariables false

theorem snoc_of {α : Type} {l : List α} (h : l ≠ []) : ∃ a x, l = a ++ [x] := ⟨l.dropLast, l.getLast h, (List.dropLast_concat_getLast h).symm⟩

theorem mem_foot_kid {σ : Sto} {h b : Nat} {nd : ND} (hb : σ b = some nd) {p : Nat} (hp : p ∈ nd.cs) {u : Nat} (hu : u ∈ foot σ h p) : u ∈ foot σ (h + 1) b := by
  rw [foot_succ hb]; exact List.mem_cons_of_mem _ (List.mem_flatMap.2 ⟨p, hp, hu⟩)

theorem len_kid {σ : Sto} {h b : Nat} {nd : ND} (hw : WF σ (h + 1) b) (hb : σ b = some nd) {p : Nat} (hp : p ∈ nd.cs) : (cont σ h p).length ≤ (cont σ (h + 1) b).length := by
  obtain ⟨a, d, hcs⟩ := List.append_of_mem hp
  obtain ⟨s1, _⟩ := hw.succ hb
  have hle : a.length ≤ nd.es.length := by rw [hcs] at s1; simp at s1; omega
  have : cont σ (h + 1) b = pre (a.map (cont σ h)) (nd.es.take a.length) ++ (cont σ h p ++ suf (d.map (cont σ h)) (nd.es.drop a.length)) := by
    rw [cont_succ hb, hcs, List.map_append, List.map_cons]
    conv => lhs; rw [← List.take_append_drop a.length nd.es]
    rw [weave_split _ _ _ _ _ (by simp; omega)]
  rw [this]; simp; omega

theorem At.kid {σ : Sto} {h b : Nat} {k : Int} {nd : ND} (t : At σ h b k nd) {p : Nat} (hp : p ∈ nd.cs) :
    ∃ n, σ p = some n ∧ p ≠ b ∧ WF σ h p ∧ 15 ≤ n.es.length ∧ n.es.length ≤ 31 ∧ n.cs.length ≤ 32 ∧ (n.cs = [] ↔ h = 0) ∧ (cont σ h p).length ≤ (cont σ (h + 1) b).length ∧ 0 ≤ n.keys ∧ n.keys ≤ (cont σ (h + 1) b).length := by
  obtain ⟨s1, s2, s3, s4⟩ := t.shape
  obtain ⟨hw, h15⟩ := s4 p hp
  obtain ⟨n, h1, h2, h3, h4⟩ := hw.get
  have hl := len_kid t.wf t.at1 hp
  have hk : 0 ≤ n.keys ∧ n.keys ≤ (cont σ (h + 1) b).length := by
    cases h with
    | zero => have := (hw.zero h1).2.2; omega
    | succ h => have := (hw.succ h1).2.2.1; omega
  refine ⟨n, h1, fun e => t.kidsN.1 (List.mem_flatMap.2 ⟨p, hp, e ▸ foot_self σ h p⟩), hw, by simpa [nE, ents_of h1] using h15, h2, h4, h3, hl, hk.1, hk.2⟩

theorem At.sep {σ : Sto} {h b : Nat} {k : Int} {nd : ND} (t : At σ h b k nd) {a d : List Nat} {p q : Nat} (cs : nd.cs = a ++ p :: q :: d) :
    (∀ u ∈ foot σ h p, u ∉ foot σ h q ∧ u ≠ b) ∧ (∀ u ∈ foot σ h q, u ≠ b) ∧ (∀ z ∈ a, ∀ u ∈ foot σ h z, u ∉ foot σ h p ∧ u ∉ foot σ h q ∧ u ≠ b) ∧ (∀ z ∈ d, ∀ u ∈ foot σ h z, u ∉ foot σ h p ∧ u ∉ foot σ h q ∧ u ≠ b) ∧ (foot σ h p).Nodup ∧ (foot σ h q).Nodup := by
  obtain ⟨hb, hn⟩ := t.kidsN
  have nb : ∀ z ∈ nd.cs, ∀ u ∈ foot σ h z, u ≠ b := fun z hz u hu e => hb (List.mem_flatMap.2 ⟨z, hz, e ▸ hu⟩)
  rw [cs] at hn
  have h1 := nodup_kids hn
  have hn2 : ((a ++ [p] ++ q :: d).flatMap (foot σ h)).Nodup := by simpa using hn
  have h2 := nodup_kids hn2
  refine ⟨fun u hu => ⟨h2.1 p (by simp) u hu, nb p (by rw [cs]; simp) u hu⟩, nb q (by rw [cs]; simp), fun z hz u hu => ⟨h1.1 z hz u hu, h2.1 z (by simp [hz]) u hu, nb z (by rw [cs]; simp [hz]) u hu⟩, fun z hz u hu => ⟨h1.2.1 z (by simp [hz]) u hu, h2.2.1 z hz u hu, nb z (by rw [cs]; simp [hz]) u hu⟩, h1.2.2, h2.2.2⟩

/-- A child's own child. -/
theorem grand {σ : Sto} {h p : Nat} {n : ND} (hw : WF σ h p) (hp : σ p = some n) (hn : (foot σ h p).Nodup) {m : Nat} (hm : m ∈ n.cs) : ∃ nm, σ m = some nm ∧ m ∈ (foot σ h p).tail ∧ m ∈ foot σ h p ∧ m ≠ p ∧ 0 ≤ nm.size ∧ nm.size ≤ (cont σ h p).length := by
  cases h with
  | zero => have := (hw.zero hp).1; rw [this] at hm; simp at hm
  | succ h =>
    obtain ⟨s1, s2, s3, s4⟩ := hw.succ hp
    obtain ⟨nm, h1, _⟩ := (s4 m hm).1.get
    have hsz := (s4 m hm).1.size h1
    have hl := len_kid hw hp hm
    have ht : m ∈ (foot σ (h + 1) p).tail := by rw [foot_tail hp]; exact List.mem_flatMap.2 ⟨m, hm, foot_self σ h m⟩
    refine ⟨nm, h1, ht, List.mem_of_mem_tail ht, fun e => ?_, by rw [hsz]; omega, by rw [hsz]; omega⟩
    rw [foot_succ hp] at hn
    rw [foot_tail hp, e] at ht
    exact (List.nodup_cons.1 hn).1 ht

theorem tail_ne {σ : Sto} {h p : Nat} (hn : (foot σ h p).Nodup) {z : Nat} (hz : z ∈ (foot σ h p).tail) : z ≠ p := by
  obtain ⟨l, hl⟩ := foot_cons σ h p
  rw [hl] at hn hz
  exact fun e => (List.nodup_cons.1 hn).1 (e ▸ hz)

def dec (nd : ND) : ND := { nd with keys := nd.keys - 1 }

/-- What fill leaves. -/
def Filled (B : Nat) (w : World) (σ : Sto) (h b : Nat) (k : Int) (e : Ending) (w' : World) : Prop :=
  ∃ (i : Nat) (c : Nat) (σ2 : Sto) (nd2 : ND) (a d : List Nat) (e1 e2 : List Ent), e = .returned (.int .i64 (i : Int)) ∧ Inv B w' σ2 ∧ Kp B w w' ∧ Prep σ σ2 h b k c k nd2 a d e1 e2 ∧ a.length = i

theorem nE_of {σ : Sto} {b : Nat} {nd : ND} (h : σ b = some nd) : nE σ b = nd.es.length := by simp [nE, ents_of h]

theorem fill_case_left {B S : Nat} {w : World} {σ : Sto} {h b : Nat} {k : Int} {nd : ND} (t : At σ h b k nd) (hI : Inv B w (upd σ b (dec nd))) (hB : B ≤ w.heap.size) (hep : w.cell? ⟨S, 2, none⟩ = some (.int .u64 0)) (hlen : (cont σ (h + 1) b).length ≤ 5000)
    {a d : List Nat} {l c : Nat} {e1 e2 : List Ent} {x : Ent} (cs : nd.cs = a ++ l :: c :: d) (es : nd.es = e1 ++ x :: e2) (la : a.length = e1.length) (hk : hasK k (cont σ h c)) (hc15 : nE σ c ≤ 15) (hl15 : 15 < nE σ l) :
    Calls Try.prog 30 #[.pointer (some ⟨S, 0, none⟩), .pointer (some ⟨b, 0, none⟩), .int .i64 ((a.length : Int) + 1)] w (Filled B w σ h b k) := by
  obtain ⟨nl, hl, hlb, wl, l1, l2, l3, l4, l5, l6, l7⟩ := t.kid (p := l) (by rw [cs]; simp)
  obtain ⟨nc, hc, hcb, wc, c1, c2, c3, c4, c5, c6, c7⟩ := t.kid (p := c) (by rw [cs]; simp)
  obtain ⟨sp, sq, sa, sd, np, nq⟩ := t.sep cs
  have hcl : c ≠ l := fun e => (sp l (foot_self _ _ _)).1 (e ▸ foot_self _ _ _)
  have D : Dif c b l := ⟨hcb, hcl, fun e => hlb e.symm⟩
  have hl' : upd σ b (dec nd) l = some nl := by rw [upd_other _ _ _ _ hlb]; exact hl
  have hc' : upd σ b (dec nd) c = some nc := by rw [upd_other _ _ _ _ hcb]; exact hc
  rw [nE_of hl] at hl15
  rw [nE_of hc] at hc15
  obtain ⟨ly, y, hy⟩ : ∃ ly y, nl.es = ly ++ [y] := by
    have hne : nl.es ≠ [] := fun e => by rw [e] at l1; simp at l1
    exact snoc_of hne
  have hly : nl.es.length = ly.length + 1 := by rw [hy]; simp
  have hin : LbIn (upd σ b (dec nd)) c b l ly.length nc nl := by
    cases h with
    | zero => exact .inl ⟨(wc.zero hc).1, (wl.zero hl).1⟩
    | succ h =>
      have hne := wl.ne hl
      obtain ⟨lc, m, hm⟩ := snoc_of hne
      obtain ⟨nm, g1, g2, g3, g4, g5, g6⟩ := grand wl hl np (m := m) (by rw [hm]; simp)
      have hmb := (sp m g3).2
      have hml := (wl.succ hl).1
      refine .inr ⟨lc, m, nm, wc.ne hc, by omega, hm, by rw [hm] at hml; simp at hml; omega, by rw [upd_other _ _ _ _ hmb]; exact g1, fun e => (sp m g3).1 (e ▸ foot_self _ _ _), hmb, g4, g5, by omega, c6, by omega, l6, by omega⟩
  refine Calls.mono (fill_left B S b c l a.length (dec nd) nc nl x y ly (upd σ b (dec nd)) w hI hB (upd_same _ _ _) hc' hl' D (by show nd.cs[a.length + 1]? = _; rw [cs]; simp) (by show nd.cs[a.length]? = _; rw [cs]; simp) (by show nd.es[a.length]? = _; rw [es, la]; simp) hy (by omega) hc15 (by omega) hep hin) ?_
  rintro e w' ⟨rfl, nc', np', nl', hI', hK', p1, p2, p3, p4, p5, p6⟩
  have hes2 : np'.es = e1 ++ y :: e2 := by rw [p2]; show nd.es.set a.length y = _; rw [es, la]; simp
  have at2 : u3 (upd σ b (dec nd)) c b l nc' np' nl' b = some np' := u3_b D
  have oth : ∀ u, u ≠ c → u ≠ b → u ≠ l → u3 (upd σ b (dec nd)) c b l nc' np' nl' u = σ u := fun u h1 h2 h3 => by rw [u3_other h1 h2 h3, upd_other _ _ _ _ h2]
  have lb : Lb σ nc nl nc' nl' := by
    rcases p6 with q | ⟨lc, m, nm, q1, q2, q3⟩
    · exact .inl q
    · refine .inr ⟨lc, m, nm, q1, ?_, q3⟩
      obtain ⟨nm', g1, g2, g3, g4, g5⟩ := grand wl hl np (m := m) (by rw [q1]; simp)
      rw [upd_other _ _ _ _ (sp m g3).2] at q2; exact q2
  obtain ⟨M, m1, m2, m3, m4, m5⟩ := leftKids (σ2 := u3 (upd σ b (dec nd)) c b l nc' np' nl') hl hc wl wc u3_c (u3_a D) (fun z hz => by
    rcases hz with hz | hz
    · have hz' := List.mem_of_mem_tail hz
      exact oth z (fun e => (sp z hz').1 (e ▸ foot_self _ _ _)) (sp z hz').2 (tail_ne np hz)
    · have hz' := List.mem_of_mem_tail hz
      exact oth z (tail_ne nq hz) (sq z hz') (fun e => (sp l (foot_self _ _ _)).1 (e ▸ hz'))) hy p5 p1 lb hc15
  have np2 : nE (u3 (upd σ b (dec nd)) c b l nc' np' nl') l = ly.length := by rw [nE_of u3_c, p5]
  have nq2 : nE (u3 (upd σ b (dec nd)) c b l nc' np' nl') c = nc.es.length + 1 := by rw [nE_of (u3_a D), p1]; simp
  have pp := prep_pair t cs es la at2 (by rw [p3]; rfl) hes2 (by rw [p4]; rfl) (fun z hz => oth z (fun e => hz (e ▸ mem_foot_kid t.at1 (by rw [cs]; simp) (foot_self _ _ _))) (fun e => hz (e ▸ foot_self _ _ _)) (fun e => hz (e ▸ mem_foot_kid t.at1 (by rw [cs]; simp) (foot_self _ _ _))))
    (fun z hz u hu => oth u (fun e => (sa z hz u hu).2.1 (e ▸ foot_self _ _ _)) (sa z hz u hu).2.2 (fun e => (sa z hz u hu).1 (e ▸ foot_self _ _ _)))
    (fun z hz u hu => oth u (fun e => (sd z hz u hu).2.1 (e ▸ foot_self _ _ _)) (sd z hz u hu).2.2 (fun e => (sd z hz u hu).1 (e ▸ foot_self _ _ _)))
    (by rw [m2, m1]; simp) m3 m4 (by omega) (by omega) m5
  refine ⟨a.length + 1, c, _, np', a ++ [l], d, e1 ++ [y], e2, by simp, hI', hK', pp.1 ?_ (by omega), by simp⟩
  obtain ⟨z, hz, hzk⟩ := hk
  exact ⟨z, by rw [m2]; simp [hz], hzk⟩

theorem fill_case_right {B S : Nat} {w : World} {σ : Sto} {h b : Nat} {k : Int} {nd : ND} (t : At σ h b k nd) (hI : Inv B w (upd σ b (dec nd))) (hB : B ≤ w.heap.size) (hep : w.cell? ⟨S, 2, none⟩ = some (.int .u64 0)) (hlen : (cont σ (h + 1) b).length ≤ 5000)
    {a d : List Nat} {c r : Nat} {e1 e2 : List Ent} {x : Ent} (cs : nd.cs = a ++ c :: r :: d) (es : nd.es = e1 ++ x :: e2) (la : a.length = e1.length) (hk : hasK k (cont σ h c)) (hc15 : nE σ c ≤ 15) (hr15 : 15 < nE σ r) (hno : NoLeft (upd σ b (dec nd)) (dec nd) a.length) :
    Calls Try.prog 30 #[.pointer (some ⟨S, 0, none⟩), .pointer (some ⟨b, 0, none⟩), .int .i64 (a.length : Int)] w (Filled B w σ h b k) := by
  obtain ⟨nr, hr, hrb, wr, l1, l2, l3, l4, l5, l6, l7⟩ := t.kid (p := r) (by rw [cs]; simp)
  obtain ⟨nc, hc, hcb, wc, c1, c2, c3, c4, c5, c6, c7⟩ := t.kid (p := c) (by rw [cs]; simp)
  obtain ⟨sp, sq, sa, sd, np, nq⟩ := t.sep cs
  have hcr : c ≠ r := fun e => (sp c (foot_self _ _ _)).1 (e ▸ foot_self _ _ _)
  have D : Dif c b r := ⟨hcb, hcr, fun e => hrb e.symm⟩
  have hr' : upd σ b (dec nd) r = some nr := by rw [upd_other _ _ _ _ hrb]; exact hr
  have hc' : upd σ b (dec nd) c = some nc := by rw [upd_other _ _ _ _ hcb]; exact hc
  rw [nE_of hr] at hr15
  rw [nE_of hc] at hc15
  obtain ⟨y, ry, hy⟩ : ∃ y ry, nr.es = y :: ry := by
    cases hq : nr.es with
    | nil => rw [hq] at l1; simp at l1
    | cons y ry => exact ⟨y, ry, rfl⟩
  have hry : nr.es.length = ry.length + 1 := by rw [hy]; simp
  have hin : RbIn (upd σ b (dec nd)) c b r nc nr := by
    cases h with
    | zero => exact .inl ⟨(wc.zero hc).1, (wr.zero hr).1⟩
    | succ h =>
      have hne := wr.ne hr
      obtain ⟨m, rc, hm⟩ : ∃ m rc, nr.cs = m :: rc := by
        cases hq : nr.cs with
        | nil => exact absurd hq hne
        | cons m rc => exact ⟨m, rc, rfl⟩
      obtain ⟨nm, g1, g2, g3, g4, g5, g6⟩ := grand wr hr nq (m := m) (by rw [hm]; simp)
      have hmb := sq m g3
      have hml := (wr.succ hr).1
      refine .inr ⟨rc, m, nm, wc.ne hc, by omega, hm, fun e => ?_, by rw [upd_other _ _ _ _ hmb]; exact g1, fun e => (sp c (foot_self _ _ _)).1 (e ▸ g3), hmb, g4, g5, by omega, c6, by omega, l6, by omega⟩
      have h1 : nr.cs.length = 1 := by rw [hm, e]; rfl
      omega
  refine Calls.mono (fill_right B S b c r a.length (dec nd) nc nr x y ry (upd σ b (dec nd)) w hI hB (upd_same _ _ _) hc' hr' D (by show nd.cs[a.length]? = _; rw [cs]; simp) (by show nd.cs[a.length + 1]? = _; rw [cs]; simp) (by show nd.es[a.length]? = _; rw [es, la]; simp) hy (by omega) hc15 (by omega) hep hno hin) ?_
  rintro e w' ⟨rfl, nc', np', nr', hI', hK', p1, p2, p3, p4, p5, p6⟩
  have hes2 : np'.es = e1 ++ y :: e2 := by rw [p2]; show nd.es.set a.length y = _; rw [es, la]; simp
  have at2 : u3 (upd σ b (dec nd)) c b r nc' np' nr' b = some np' := u3_b D
  have oth : ∀ u, u ≠ c → u ≠ b → u ≠ r → u3 (upd σ b (dec nd)) c b r nc' np' nr' u = σ u := fun u h1 h2 h3 => by rw [u3_other h1 h2 h3, upd_other _ _ _ _ h2]
  have rb : Rb σ nc nr nc' nr' := by
    rcases p6 with q | ⟨rc, m, nm, q1, q2, q3⟩
    · exact .inl q
    · refine .inr ⟨rc, m, nm, q1, ?_, q3⟩
      obtain ⟨nm', g1, g2, g3, g4, g5⟩ := grand wr hr nq (m := m) (by rw [q1]; simp)
      rw [upd_other _ _ _ _ (sq m g3)] at q2; exact q2
  obtain ⟨M, m1, m2, m3, m4, m5⟩ := rightKids (σ2 := u3 (upd σ b (dec nd)) c b r nc' np' nr') hr hc wr wc u3_c (u3_a D) (fun z hz => by
    rcases hz with hz | hz
    · have hz' := List.mem_of_mem_tail hz
      exact oth z (fun e => (sp c (foot_self _ _ _)).1 (e ▸ hz')) (sq z hz') (tail_ne nq hz)
    · have hz' := List.mem_of_mem_tail hz
      exact oth z (tail_ne np hz) (sp z hz').2 (fun e => (sp z hz').1 (e ▸ foot_self _ _ _))) hy p5 p1 rb hc15 (by omega)
  have np2 : nE (u3 (upd σ b (dec nd)) c b r nc' np' nr') r = ry.length := by rw [nE_of u3_c, p5]
  have nq2 : nE (u3 (upd σ b (dec nd)) c b r nc' np' nr') c = nc.es.length + 1 := by rw [nE_of (u3_a D), p1]; simp
  have pp := prep_pair t cs es la at2 (by rw [p3]; rfl) hes2 (by rw [p4]; rfl) (fun z hz => oth z (fun e => hz (e ▸ mem_foot_kid t.at1 (by rw [cs]; simp) (foot_self _ _ _))) (fun e => hz (e ▸ foot_self _ _ _)) (fun e => hz (e ▸ mem_foot_kid t.at1 (by rw [cs]; simp) (foot_self _ _ _))))
    (fun z hz u hu => oth u (fun e => (sa z hz u hu).1 (e ▸ foot_self _ _ _)) (sa z hz u hu).2.2 (fun e => (sa z hz u hu).2.1 (e ▸ foot_self _ _ _)))
    (fun z hz u hu => oth u (fun e => (sd z hz u hu).1 (e ▸ foot_self _ _ _)) (sd z hz u hu).2.2 (fun e => (sd z hz u hu).2.1 (e ▸ foot_self _ _ _)))
    (by rw [m2, m1]; simp) m4 m3 (by omega) (by omega) m5
  refine ⟨a.length, c, _, np', a, r :: d, e1, y :: e2, rfl, hI', hK', pp.2 ?_ (by omega), rfl⟩
  obtain ⟨z, hz, hzk⟩ := hk
  exact ⟨z, by rw [m2]; simp [hz], hzk⟩

/-- What a merge of two children makes ready. -/
theorem merge_prep {B : Nat} {w w' : World} {σ : Sto} {h b : Nat} {k : Int} {nd : ND} (t : At σ h b k nd)
    {a d : List Nat} {p q : Nat} {e1 e2 : List Ent} {x : Ent} (cs : nd.cs = a ++ p :: q :: d) (es : nd.es = e1 ++ x :: e2) (la : a.length = e1.length) {n1 n2 n' np' : ND} (hp : σ p = some n1) (hq : σ q = some n2)
    (hp15 : n1.es.length ≤ 15) (hq15 : n2.es.length ≤ 15)
    (p1 : n'.es = n1.es ++ x :: n2.es) (p2 : n'.cs = n1.cs ++ n2.cs) (p3 : n'.keys = mk2 n1 n2) (p4 : np'.es = e1 ++ e2) (p5 : np'.cs = a ++ p :: d) (p6 : np'.keys = nd.keys - 1)
    (hk : hasK k (cont σ h p) ∨ x.k = k ∨ hasK k (cont σ h q)) :
    Prep σ (upd (upd (upd σ b (dec nd)) p n') b np') h b k p k np' a d e1 e2 := by
  obtain ⟨n1', hp', hpb, wp, c1, c2, c3, c4, c5, c6, c7⟩ := t.kid (p := p) (by rw [cs]; simp)
  obtain ⟨n2', hq', hqb, wq, l1, l2, l3, l4, l5, l6, l7⟩ := t.kid (p := q) (by rw [cs]; simp)
  rw [hp] at hp'; cases hp'
  rw [hq] at hq'; cases hq'
  obtain ⟨sp, sq, sa, sd, np, nq⟩ := t.sep cs
  have oth : ∀ u, u ≠ p → u ≠ b → upd (upd (upd σ b (dec nd)) p n') b np' u = σ u := fun u h1 h2 => by rw [upd_other _ _ _ _ h2, upd_other _ _ _ _ h1, upd_other _ _ _ _ h2]
  have at2 : upd (upd (upd σ b (dec nd)) p n') b np' b = some np' := upd_same _ _ _
  have atp : upd (upd (upd σ b (dec nd)) p n') b np' p = some n' := by rw [upd_other _ _ _ _ hpb]; exact upd_same _ _ _
  obtain ⟨m1, m2, m3⟩ := mergeKid hp hq wp wq atp (fun z hz => by
    rcases hz with hz | hz
    · exact oth z (tail_ne np hz) (sp z (List.mem_of_mem_tail hz)).2
    · have hz' := List.mem_of_mem_tail hz
      exact oth z (fun e => (sp p (foot_self _ _ _)).1 (e ▸ hz')) (sq z hz')) p1 p2 p3 (by rw [p1]; simp; omega)
  refine prep_merged t cs es la at2 p5 p4 p6 (fun z hz => oth z (fun e => hz (e ▸ mem_foot_kid t.at1 (by rw [cs]; simp) (foot_self _ _ _))) (fun e => hz (e ▸ foot_self _ _ _)))
    (fun z hz u hu => oth u (fun e => (sa z hz u hu).1 (e ▸ foot_self _ _ _)) (sa z hz u hu).2.2)
    (fun z hz u hu => oth u (fun e => (sd z hz u hu).1 (e ▸ foot_self _ _ _)) (sd z hz u hu).2.2) m2 m1 (by rw [nE_of atp, p1]; simp; omega) m3 ?_
  rw [m2]
  rcases hk with ⟨z, hz, hzk⟩ | hxk | ⟨z, hz, hzk⟩
  · exact ⟨z, by simp [hz], hzk⟩
  · exact ⟨x, by simp, hxk⟩
  · exact ⟨z, by simp [hz], hzk⟩
end Go.Proofs.Qxb6613550a
