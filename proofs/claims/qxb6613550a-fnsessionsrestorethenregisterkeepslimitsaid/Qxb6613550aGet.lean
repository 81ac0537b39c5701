/-
  Map.Get of a key that the tree holds.
-/
import Derived.Test.Qxb6613550aEnds
namespace Go.Proofs.Qxb6613550a
open Go.RowKit
set_option linter.unusedVariables false

abbrev Z47 : Obj := .cells #[.int .u64 0, .int .u64 0, .nilIface] 47

/-- A tree as a Map holds it. -/
structure Tree (σ : Sto) (h b : Nat) : Prop where
  wf : WF σ h b
  nodup : (foot σ h b).Nodup
  srt : Srt (cont σ h b)
  ne : 0 < h → 0 < nE σ b

theorem has_leaf {es : List Ent} {k : Int} {r : Nat} (hs : Srt es) (c : Cut es k r) (nf : fnd es k r = false) : ¬ hasK k es := by
  obtain ⟨h1, h2⟩ := cut_parts hs c nf
  rintro ⟨x, hx, hxk⟩
  rw [← List.take_append_drop r es] at hx
  rcases List.mem_append.1 hx with hx | hx
  · have := h1 x hx; omega
  · have := h2 x hx; omega

/-- The child that search names. -/
theorem has_kid {σ : Sto} {h b : Nat} {nd : ND} (hw : WF σ (h + 1) b) (hb : σ b = some nd) (hs : Srt (cont σ (h + 1) b)) {k : Int} (hk : hasK k (cont σ (h + 1) b)) {r : Nat} (c0 : Cut nd.es k r) (nf : fnd nd.es k r = false) :
    ∃ hr : r < nd.cs.length, WF σ h nd.cs[r] ∧ 15 ≤ nE σ nd.cs[r] ∧ Srt (cont σ h nd.cs[r]) ∧ hasK k (cont σ h nd.cs[r]) := by
  obtain ⟨s1, s2, s3, s4⟩ := hw.succ hb
  have hr := c0.le
  have hlt : r < nd.cs.length := by omega
  have hes : Srt nd.es := by rw [cont_succ hb] at hs; exact hs.sub (sub_weave _ _ (by simp [s1]))
  have hp : cont σ (h + 1) b = pre ((nd.cs.take r).map (cont σ h)) (nd.es.take r) ++ (cont σ h nd.cs[r] ++ suf ((nd.cs.drop (r + 1)).map (cont σ h)) (nd.es.drop r)) := by
    rw [cont_succ hb]
    conv => lhs; rw [← List.take_append_drop r nd.cs, ← List.getElem_cons_drop hlt, ← List.take_append_drop r nd.es]
    rw [List.map_append, List.map_cons, weave_split _ _ _ _ _ (by simp; omega)]
  rw [hp] at hs hk
  obtain ⟨q1, q2⟩ := cut_parts hes c0 nf
  exact ⟨hlt, (s4 _ (List.getElem_mem hlt)).1, (s4 _ (List.getElem_mem hlt)).2, srt_mid hs, locate hs hk q1 q2⟩

theorem srt_es {σ : Sto} {h b : Nat} {nd : ND} (hw : WF σ h b) (hb : σ b = some nd) (hs : Srt (cont σ h b)) : Srt nd.es := by
  cases h with
  | zero => simpa [cont, ents_of hb] using hs
  | succ h =>
    obtain ⟨s1, _⟩ := hw.succ hb
    rw [cont_succ hb] at hs
    exact hs.sub (sub_weave _ _ (by simp [s1]))

set_option maxHeartbeats 1600000 in
set_option maxRecDepth 100000 in
theorem get_any (B S : Nat) (σ : Sto) (h b : Nat) (k : Int) (w : World) (hI : Inv B w σ) (hB : B ≤ w.heap.size) (T : Tree σ h b) (hk : hasK k (cont σ h b)) (hroot : w.cell? ⟨S, 0, none⟩ = some (.pointer (some ⟨b, 0, none⟩))) :
    Calls Try.prog 22 #[.pointer (some ⟨S, 0, none⟩), .int .u64 k] w fun e w' => ∃ c s, e = .returned (.tuple #[.agg #[.int .u64 c, .int .u64 s, .nilIface], .bool true]) ∧ Below w.heap.size w w' := by
  have HI0 : Hid (Inv B (w.alloc Z47) σ) := hI.alloc _
  have HW : Hid (WF σ h b ∧ 0 < nE σ b ∧ Srt (cont σ h b) ∧ hasK k (cont σ h b)) := by
    refine ⟨T.wf, ?_, T.srt, hk⟩
    cases h with
    | zero =>
      obtain ⟨x, hx, _⟩ := hk
      simp only [cont] at hx
      simp only [nE]
      exact List.length_pos_iff.2 (fun e => by rw [e] at hx; simp at hx)
    | succ h => exact T.ne (by omega)
  have hroot2 := alloc_cell0 Z47 hroot
  clear hI T hk
  go_enter Try.func22, Try.ntmps22
  go_wp2
  clear hroot hroot2
  go_loopg [6, 7, 8] h (fun g p s7 s8 wr => ∃ (b' : Nat) (n : Nat), p = .pointer (some ⟨b', 0, none⟩) ∧ wr = (w.alloc Z47).drewN n ∧ Hid (WF σ g b' ∧ 0 < nE σ b' ∧ Srt (cont σ g b') ∧ hasK k (cont σ g b')))
  case atStart => exact ⟨b, 0, rfl, rfl, HW.out⟩
  case round =>
    obtain ⟨b', n, rfl, hwr, hR⟩ := hrel
    subst hwr
    obtain ⟨nd, hnd, -, hlf, -⟩ := hR.out.1.get
    have nN := HI0.out.node b' nd hnd
    have nNn := (HI0.out.drewN n).node b' nd hnd
    have HND : Hid (σ b' = some nd) := hnd
    have hpos : 0 < nd.es.length := by rw [← nE_of hnd]; exact hR.out.2.1
    have hse := srt_es hR.out.1 hnd hR.out.2.2.1
    have hsr := search_any B b' nd k _ nNn hse hpos
    have HSR := (show Hid _ from hsr)
    clear hlf hnd hsr hse
    go_wp2_with fail
    refine Calls.mono HSR.out ?_
    rintro e w' ⟨r, rfl, hcut, n2, hw'⟩
    rw [World.drewN_drewN] at hw'
    subst w'
    have HCUT := (show Hid _ from hcut)
    clear hcut HSR nNn
    by_cases hf : fnd nd.es k r = true
    · have hrl : r < nd.es.length := by simp [fnd] at hf; exact hf.1
      obtain ⟨g, l, cap, HV, hl0, hl1, c1, -, -⟩ := nN.rowE hpos
      obtain ⟨x0, x1, x2, x3⟩ := nN.entry HV.out.1 hrl
      obtain ⟨y, hy⟩ : ∃ y, nd.es[r] = y := ⟨_, rfl⟩
      rw [hy] at x0 x1 x2
      have hrI : (r : Int) < l := by rw [HV.out.2]; omega
      have HF := (show Hid _ from hf)
      clear hf hy hrl nN hpos
      rw [HF.out]
      go_wp2_with fail
      go_returns
      refine ⟨y.c, y.s, rfl, ?_⟩
      refine Below.setCell ?_ (p := ⟨w.heap.size, 2, none⟩) (Nat.le_refl _) _
      refine Below.setCell ?_ (p := ⟨w.heap.size, 1, none⟩) (Nat.le_refl _) _
      refine Below.setCell ?_ (p := ⟨w.heap.size, 0, none⟩) (Nat.le_refl _) _
      exact ((Below.refl w.heap.size w).alloc (Nat.le_refl _) Z47).trans ⟨rfl, rfl, rfl, Nat.le_refl _, fun _ _ => rfl⟩
    · have nf : fnd nd.es k r = false := by simpa using hf
      have HF := (show Hid _ from nf)
      cases gk with
      | zero =>
        exfalso
        have h1 := hR.out.2.2.2
        simp only [cont, ents_of HND.out] at h1
        exact has_leaf (srt_es hR.out.1 HND.out hR.out.2.2.1) HCUT.out nf h1
      | succ g =>
        have nNn := (HI0.out.drewN (n + n2)).node b' nd HND.out
        have hcb : nd.cs.isEmpty = false := by cases hq : nd.cs with | nil => exact absurd hq (hR.out.1.ne HND.out) | cons _ _ => rfl
        have HCB := (show Hid _ from hcb)
        obtain ⟨hrl, k1, k2, k3, k4⟩ := has_kid hR.out.1 HND.out hR.out.2.2.1 hR.out.2.2.2 HCUT.out nf
        obtain ⟨gq, l, cap, HV, hl0, hl1, c2, -, -⟩ := nN.rowC (by omega)
        have x0 := nN.kid HV.out.1 hrl
        obtain ⟨c, hc⟩ : ∃ c, nd.cs[r] = c := ⟨_, rfl⟩
        rw [hc] at x0 k1 k2 k3 k4
        have hrI : (r : Int) < l := by rw [HV.out.2]; omega
        have hnext : Hid (WF σ g c ∧ 0 < nE σ c ∧ Srt (cont σ g c) ∧ hasK k (cont σ g c)) := ⟨k1, by omega, k3, k4⟩
        clear nf hf hcb k1 k2 k3 k4 hc hrl nN hpos
        rw [HF.out]
        go_wp2_with fail
        refine (leaf_any B b' nd _ nNn).mono ?_
        rintro e w' ⟨rfl, hw'⟩
        subst w'
        rw [HCB.out]
        clear nNn
        go_wp2
        go_roundg g
        case measure => omega
        case rel => exact ⟨c, n + n2, rfl, rfl, hnext⟩
end Go.Proofs.Qxb6613550a
