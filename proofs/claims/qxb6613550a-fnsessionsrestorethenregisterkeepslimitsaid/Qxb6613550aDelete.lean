/-
  Map.Delete of a key that the tree holds.
-/
import Derived.Test.Qxb6613550aGet
import Derived.Test.Qxb6613550aFill
import Derived.Deep.RegionHeldLaw
import Derived.Laws.Rows
import Derived.Laws.ResultCell
import Derived.Deep.CutRange
namespace Go.Proofs.Qxb6613550a
open Go.RowKit
set_option linter.unusedVariables false

theorem Sub.leaf {σ : Sto} {b : Nat} {nd : ND} (hw : WF σ 0 b) (hb : σ b = some nd) (hs : Srt (cont σ 0 b)) {k : Int} {r : Nat} (c0 : Cut nd.es k r) (hk : hasK k (cont σ 0 b)) {nd' : ND} (h1 : nd'.es = nd.es.take r ++ nd.es.drop (r + 1)) (h2 : nd'.cs = nd.cs) (h3 : nd'.keys = nd.keys) :
    r < nd.es.length ∧ Sub σ (upd σ b nd') 0 b (del k (cont σ 0 b)) := by
  have hse := srt_es hw hb hs
  have hf : fnd nd.es k r = true := by
    cases hq : fnd nd.es k r with
    | true => rfl
    | false => exact absurd (by simpa [cont, ents_of hb] using hk) (has_leaf hse c0 hq)
  simp [fnd] at hf
  obtain ⟨hr, hkr⟩ := hf
  rw [kAt_lt hr] at hkr
  have hc : cont σ 0 b = nd.es.take r ++ ([nd.es[r]] ++ nd.es.drop (r + 1)) := by
    simp only [cont, ents_of hb]
    rw [List.singleton_append, List.getElem_cons_drop, List.take_append_drop]
  obtain ⟨z1, z2, z3⟩ := hw.zero hb
  refine ⟨hr, fun x hx => upd_other _ _ _ _ (fun e => hx (by rw [e]; exact foot_self _ _ _)), ⟨nd', upd_same _ _ _, by rw [h2]; exact z1, by rw [h1]; simp; omega, by rw [h3]; exact z3⟩, ?_, ?_, fun x hx => by simpa [foot] using hx, by simp [foot]⟩
  · rw [nE_of hb, nE_of (upd_same _ _ _), h1]; simp; omega
  · rw [hc] at hs ⊢
    rw [del_mid hs ⟨_, by simp, hkr⟩]
    simp [cont, ents_of (upd_same _ _ _), h1, del, hkr]

/-- The root behind the loop. -/
theorem root_keep {σ σ' : Sto} {h b : Nat} {L : List Ent} (s : Sub σ σ' h b L) (hs : Srt L) (hn : h = 0 ∨ 0 < nE σ' b) : Tree σ' h b ∧ cont σ' h b = L :=
  ⟨⟨s.wf, s.nd, by rw [s.ct]; exact hs, fun hh => by rcases hn with hn | hn; omega; exact hn⟩, s.ct⟩
theorem root_drop {σ σ' : Sto} {h b : Nat} {L : List Ent} {nb : ND} (s : Sub σ σ' (h + 1) b L) (hs : Srt L) (hb : σ' b = some nb) (hn : nb.es = []) : ∃ c, nb.cs = [c] ∧ Tree σ' h c ∧ cont σ' h c = L := by
  obtain ⟨s1, s2, s3, s4⟩ := s.wf.succ hb
  obtain ⟨c, hc⟩ : ∃ c, nb.cs = [c] := by
    rw [hn] at s1
    match hq : nb.cs, s1 with
    | [c], _ => exact ⟨c, rfl⟩
  have hct : cont σ' h c = L := by
    rw [← s.ct, cont_succ hb, hc, hn]; simp [weave, suf]
  have hnd := s.nd
  rw [foot_succ hb, hc] at hnd
  have hk := s4 c (by rw [hc]; simp)
  refine ⟨c, hc, ⟨hk.1, ?_, by rw [hct]; exact hs, fun _ => by have := hk.2; omega⟩, hct⟩
  have := (List.nodup_cons.1 hnd).2
  simpa using this

/-- What a Map's write leaves alone: all memory of another kind but the Map's own block. -/
structure KpS (B S : Nat) (w w' : World) : Prop where
  bel : Below B w w'
  oth : ∀ (k : Nat) (o : Obj), k ≠ S → w.heap[k]? = some o → Oth o → w'.heap[k]? = some o
theorem KpS.of {B S : Nat} {w w' : World} (h : Kp B w w') : KpS B S w w' := ⟨h.bel, fun k o _ h1 h2 => h.oth k o h1 h2⟩
theorem KpS.trans {B S : Nat} {a b c : World} (h : KpS B S a b) (k : KpS B S b c) : KpS B S a c := ⟨h.bel.trans k.bel, fun i o hi h1 h2 => k.oth i o hi (h.oth i o hi h1 h2) h2⟩
theorem KpS.setCell {B S j : Nat} {w : World} (v : Value) (hB : B ≤ S) : KpS B S w (w.setCell ⟨S, j, none⟩ v) := ⟨(Below.refl _ _).setCell hB v, fun k o hk h1 _ => by rw [heap_setCell_not v hk]; exact h1⟩
theorem Inv.setOth {B S j : Nat} {w : World} {σ : Sto} (h : Inv B w σ) (v : Value) {cur : Array Value} {t : TypeId} {fr : Nat × Nat} (hS : w.heap[S]? = some (.cells cur t fr)) (ht : t ≠ 67 ∧ t ≠ 64 ∧ t ≠ 29) : Inv B (w.setCell ⟨S, j, none⟩ v) σ := by
  refine ⟨fun b nd hb => ?_, h.inje, h.injc⟩
  have n := h.node b nd hb
  refine n.keep (heap_setCell_not _ (fun e => ?_)) (fun g hg => heap_setCell_not _ (fun e => ?_)) (fun g hg => heap_setCell_not _ (fun e => ?_))
  · have := n.hd; rw [e, hS] at this; simp at this; exact ht.1 this.2.1
  · obtain ⟨cu, hh⟩ := ownsRow_heap n.ents hg; rw [e, hS] at hh; simp at hh; exact ht.2.1 hh.2.1
  · obtain ⟨cu, hh⟩ := ownsRow_heap n.kids hg; rw [e, hS] at hh; simp at hh; exact ht.2.2 hh.2.1

/-- A round of Delete's loop: what holds at its head. -/
structure Rnd (B : Nat) (W : World) (σ : Sto) (h b : Nat) (k : Int) (wr : World) (g b' : Nat) (k' : Int) (σr : Sto) : Prop where
  inv : Inv B wr σr
  kp : Kp B W wr
  wf : WF σr g b'
  pos : 0 < nE σr b'
  nodup : (foot σr g b').Nodup
  srt : Srt (cont σr g b')
  has : hasK k' (cont σr g b')
  few : (cont σr g b').length ≤ 5000
  wand : ∀ σ', Sub σr σ' g b' (del k' (cont σr g b')) → Sub σ σ' h b (del k (cont σ h b))

theorem Rnd.next {B : Nat} {W : World} {σ : Sto} {h b : Nat} {k : Int} {wr : World} {g b' : Nat} {k' : Int} {σr : Sto} (R : Rnd B W σ h b k wr (g + 1) b' k' σr) {wx : World} {σ2 : Sto} {c : Nat} {k2 : Int} {nd2 : ND} {a d : List Nat} {e1 e2 : List Ent}
    (hI : Inv B wx σ2) (hK : Kp B wr wx) (p : Prep σr σ2 g b' k' c k2 nd2 a d e1 e2) : Rnd B W σ h b k wx g c k2 σ2 := by
  have hn := p.nodup
  rw [foot_succ p.at2, p.cs] at hn
  have hc : c ∈ nd2.cs := by rw [p.cs]; simp
  refine ⟨hI, R.kp.trans hK, (p.kw c hc).1, by have := p.room; omega, (nodup_kids (List.nodup_cons.1 hn).2).2.2, p.srt, p.has, ?_, fun σ' s => R.wand σ' (down p s)⟩
  have h1 := congrArg List.length p.ct
  have h2 := del_len R.srt R.has
  have h3 := del_len p.srt p.has
  have h4 := R.few
  simp only [List.length_append] at h1
  omega

theorem Rnd.at {B : Nat} {W : World} {σ : Sto} {h b : Nat} {k : Int} {wr : World} {g b' : Nat} {k' : Int} {σr : Sto} (R : Rnd B W σ h b k wr (g + 1) b' k' σr) {nd : ND} (hb : σr b' = some nd) : At σr g b' k' nd := ⟨hb, R.wf, R.nodup, R.srt, R.has⟩

theorem Tree.pos {σ : Sto} {h b : Nat} (T : Tree σ h b) {k : Int} (hk : hasK k (cont σ h b)) : 0 < nE σ b := by
  cases h with
  | zero =>
    obtain ⟨x, hx, _⟩ := hk
    simp only [cont] at hx
    simp only [nE]
    exact List.length_pos_iff.2 (fun e => by rw [e] at hx; simp at hx)
  | succ h => exact T.ne (by omega)

theorem set_same {cur : Array Value} {i : Nat} {v : Value} (h : cur[i]? = some v) : cur.setIfInBounds i v = cur := by
  apply Array.ext_getElem?
  intro j
  rw [Array.getElem?_setIfInBounds]
  split
  · next hj =>
    subst hj
    have := (Array.getElem?_eq_some_iff.1 h).1
    rw [if_pos this, h]
  · rfl

/-- The results: a struct's cells and a slot. -/
theorem results_pair {P : Program} {fn : Func} {p u : Tmp} {ty : TypeId} (h : fn.results = #[.cell p ty, .tmp u]) (tmps : Array Value) (w : World) (g : Nat) (t : TypeId) (cs : Array Value) (fr : Nat × Nat) (d : TypeDesc)
    (hp : tmps.getD p undef = .pointer (some ⟨g, 0, none⟩)) (hg : w.heap[g]? = some (.cells cs t fr)) (hu : P.underlying ty = some d) (hd : (match d with | .struct _ | .array _ _ => true | _ => false) = true) (hi : (P.info? ty).map (·.size) = some cs.size) :
    (results fn tmps).run P w = .ok (.tuple #[.agg cs, tmps.getD u undef]) w := by
  rw [results_cell_tmp h, hp]
  simp [asAddr, run_loadVar_row w g t ty cs fr d hg hu hd hi]

theorem found_at {es : List Ent} {k : Int} {r : Nat} (h : fnd es k r = true) : ∃ e1 x e2, es = e1 ++ x :: e2 ∧ e1.length = r ∧ x.k = k := by
  simp [fnd] at h
  obtain ⟨hr, hk⟩ := h
  rw [kAt_lt hr] at hk
  exact ⟨es.take r, es[r], es.drop (r + 1), by rw [List.getElem_cons_drop, List.take_append_drop], by rw [List.length_take]; omega, hk⟩

set_option maxHeartbeats 12800000 in
set_option maxRecDepth 100000 in
theorem delete_any (B S : Nat) (σ : Sto) (h b : Nat) (k : Int) (n : Int) (cur : Array Value) (w : World) (hI : Inv B w σ) (hB : B ≤ w.heap.size) (T : Tree σ h b) (hk : hasK k (cont σ h b)) (hlen : (cont σ h b).length ≤ 5000)
    (hS : w.heap[S]? = some (.cells cur 36 (0, 0))) (hBS : B ≤ S) (h0 : cur[0]? = some (.pointer (some ⟨b, 0, none⟩))) (h1 : cur[1]? = some (.int .i64 n)) (h2 : cur[2]? = some (.int .u64 0)) (hn0 : 0 ≤ n) (hn1 : n ≤ 100000) :
    Calls Try.prog 16 #[.pointer (some ⟨S, 0, none⟩), .int .u64 k] w fun e w' => ∃ v σ' h' b' , e = .returned (.tuple #[v, .bool true]) ∧ Inv B w' σ' ∧ Tree σ' h' b' ∧ cont σ' h' b' = del k (cont σ h b) ∧ KpS B S w w' ∧
      w'.heap[S]? = some (.cells ((cur.setIfInBounds 1 (.int .i64 (n - 1))).setIfInBounds 0 (.pointer (some ⟨b', 0, none⟩))) 36 (0, 0)) := by
  have hcell : ∀ (W : World), W.heap[S]? = some (.cells cur 36 (0, 0)) → W.cell? ⟨S, 0, none⟩ = some (.pointer (some ⟨b, 0, none⟩)) ∧ W.cell? ⟨S, 1, none⟩ = some (.int .i64 n) ∧ W.cell? ⟨S, 2, none⟩ = some (.int .u64 0) ∧ W.frozen? ⟨S, 0, none⟩ = false ∧ W.frozen? ⟨S, 1, none⟩ = false := fun W hW => by
    refine ⟨?_, ?_, ?_, ?_, ?_⟩
    · rw [cell_of_row W S 0 cur 36 (0, 0) hW]; exact h0
    · rw [cell_of_row W S 1 cur 36 (0, 0) hW]; exact h1
    · rw [cell_of_row W S 2 cur 36 (0, 0) hW]; exact h2
    · simp [World.frozen?, hW]
    · simp [World.frozen?, hW]
  have HCELL := (show Hid _ from hcell)
  have ltS : S < w.heap.size := heap_lt hS
  have hSa : (w.alloc Z47).heap[S]? = some (.cells cur 36 (0, 0)) := by rw [Below.heap_alloc w Z47 S ltS]; exact hS
  have hget := get_any B S σ h b k (w.alloc Z47) (hI.alloc _) (by simp; omega) T hk (hcell _ hSa).1
  have HGET := (show Hid _ from hget)
  have HALL : Hid (Inv B w σ ∧ Tree σ h b ∧ hasK k (cont σ h b) ∧ (cont σ h b).length ≤ 5000 ∧ w.heap[S]? = some (.cells cur 36 (0, 0)) ∧ cur[0]? = some (.pointer (some ⟨b, 0, none⟩)) ∧ cur[1]? = some (.int .i64 n)) := ⟨hI, T, hk, hlen, hS, h0, h1⟩
  clear hget hcell hI T hk hlen hS h0 h1 h2 hSa
  go_enter Try.func16, Try.ntmps16
  go_wp2_with fail
  refine Calls.mono HGET.out ?_
  rintro e w1 ⟨vc, vs, rfl, hb1⟩
  -- the world behind Get, and the value kept
  obtain ⟨W0, hW0⟩ : ∃ W0, W0 = w1.alloc (.cells #[.int .u64 vc, .int .u64 vs, .nilIface] 47) := ⟨_, rfl⟩
  have hbel : Below w.heap.size w W0 := by
    rw [hW0]
    refine (((Below.refl w.heap.size w).alloc (Nat.le_refl _) Z47).trans (hb1.mono (by simp))).alloc ?_ _
    have := hb1.size; simp at this; omega
  have hp4 : W0.heap[w.heap.size]? = some Z47 := by
    have e1 : w1.heap[w.heap.size]? = some Z47 := by rw [hb1.block _ (by simp)]; exact alloc_new0 w Z47
    rw [hW0, Below.heap_alloc _ _ _ (heap_lt e1)]; exact e1
  have hp6 : W0.heap[w1.heap.size]? = some (.cells #[.int .u64 vc, .int .u64 vs, .nilIface] 47 (0, 0)) := by rw [hW0]; exact alloc_new0 w1 _
  have HW0 : Hid (W0 = w1.alloc (.cells #[.int .u64 vc, .int .u64 vs, .nilIface] 47)) := hW0
  have HB0 : Hid (Below w.heap.size w W0 ∧ W0.heap[w.heap.size]? = some Z47 ∧ W0.heap[w1.heap.size]? = some (.cells #[.int .u64 vc, .int .u64 vs, .nilIface] 47 (0, 0))) := ⟨hbel, hp4, hp6⟩
  have hne46 : w1.heap.size ≠ w.heap.size := by have := hb1.size; simp at this; omega
  have hne4 : w.heap.size ≠ S := by omega
  have hne6 : w1.heap.size ≠ S := by have := hb1.size; simp at this; omega
  clear hW0 hbel hp4 hp6 HGET hb1
  have hS0 : W0.heap[S]? = some (.cells cur 36 (0, 0)) := by rw [HB0.out.1.block S ltS]; exact HALL.out.2.2.2.2.1
  obtain ⟨nb, hnb, -⟩ := HALL.out.2.1.wf.get
  have hI0 : Inv B W0 σ := HALL.out.1.below HB0.out.1 (Nat.le_refl _)
  have hown := own_any B S b nb ⟨S, 0, none⟩ W0 (hI0.node b nb hnb) (HCELL.out W0 hS0).2.2.1 (HCELL.out W0 hS0).1
  have HOWN := (show Hid _ from hown)
  clear hown hI0 hnb hS0
  go_wp2_with fail
  rw [← HW0.out]
  refine Calls.mono HOWN.out ?_
  rintro e w2 ⟨rfl, n0, hw2⟩
  have HW2 : Hid (w2 = W0.drewN n0) := hw2
  clear hw2 HOWN
  go_wp2_with fail
  have HR0 : Hid (Rnd B w2 σ h b k w2 h b k σ) := by
    have hI2 : Inv B w2 σ := by rw [HW2.out]; exact (HALL.out.1.below HB0.out.1 (Nat.le_refl _)).drewN n0
    exact ⟨hI2, Kp.refl _ _, HALL.out.2.1.wf, HALL.out.2.1.pos HALL.out.2.2.1, HALL.out.2.1.nodup, HALL.out.2.1.srt, HALL.out.2.2.1, HALL.out.2.2.2.1, fun _ s => s⟩
  have HB2 : Hid (Below w.heap.size w w2 ∧ w2.heap[w.heap.size]? = some Z47 ∧ w2.heap[w1.heap.size]? = some (.cells #[.int .u64 vc, .int .u64 vs, .nilIface] 47 (0, 0)) ∧ w2.heap[S]? = some (.cells cur 36 (0, 0)) ∧ B ≤ w2.heap.size) := by
    obtain ⟨q1, q2, q3⟩ := HB0.out
    have hbb : Below w.heap.size w w2 := by rw [HW2.out]; exact q1.trans ⟨rfl, rfl, rfl, Nat.le_refl _, fun _ _ => rfl⟩
    refine ⟨hbb, by rw [HW2.out]; exact q2, by rw [HW2.out]; exact q3, ?_, Nat.le_trans hB hbb.size⟩
    rw [hbb.block S ltS]; exact HALL.out.2.2.2.2.1
  clear HW2 HB0 HW0
  go_loopg [1, 8, 9, 10, 11, 12] h (fun g s1 s8 s9 s10 s11 s12 wr => ∃ (b' : Nat) (k' : Int), s1 = .int .u64 k' ∧ s8 = .pointer (some ⟨b', 0, none⟩) ∧ Hid (∃ σr, Rnd B w2 σ h b k wr g b' k' σr))
  case atStart => exact ⟨b, k, rfl, rfl, σ, HR0.out⟩
  case round =>
    obtain ⟨b', k', rfl, rfl, hR0⟩ := hrel
    obtain ⟨σr, hr⟩ := hR0.out
    obtain ⟨nd, hnd, hnd31, hlf, -⟩ := hr.wf.get
    have hpos : 0 < nd.es.length := by rw [← nE_of hnd]; exact hr.pos
    have hsr := search_any B b' nd k' wr (hr.inv.node b' nd hnd) (srt_es hr.wf hnd hr.srt) hpos
    have HSR := (show Hid _ from hsr)
    have HRR : Hid (Rnd B w2 σ h b k wr gk b' k' σr ∧ σr b' = some nd) := ⟨hr, hnd⟩
    clear hsr hr hnd hlf hR0 HR0
    go_wp2_with fail
    refine Calls.mono HSR.out ?_
    rintro e wz ⟨r, rfl, hcut, n2, hwz⟩
    have HZ : Hid (Rnd B w2 σ h b k wz gk b' k' σr ∧ σr b' = some nd ∧ Cut nd.es k' r) := by
      obtain ⟨q, q2⟩ := HRR.out
      refine ⟨?_, q2, hcut⟩
      rw [hwz]
      exact ⟨q.inv.drewN n2, q.kp.trans (Kp.drewN B wr n2), q.wf, q.pos, q.nodup, q.srt, q.has, q.few, q.wand⟩
    clear HRR HSR hcut hwz
    have hBz : B ≤ wz.heap.size := Nat.le_trans HB2.out.2.2.2.2 HZ.out.1.kp.size
    have hr31 : r ≤ 31 := by have := HZ.out.2.2.le; omega
    cases gk with
    | zero =>
      have hz := (HZ.out.1.wf.zero HZ.out.2.1).1
      have hcb : nd.cs.isEmpty = true := by rw [hz]; rfl
      have HCB := (show Hid _ from hcb)
      have nN := HZ.out.1.inv.node b' nd HZ.out.2.1
      obtain ⟨ge, le, cape, HVE, hle0, hle1, c1, -, -⟩ := nN.rowE hpos
      have f1 := nN.free 1
      have hrl := (Sub.leaf HZ.out.1.wf HZ.out.2.1 HZ.out.1.srt HZ.out.2.2 HZ.out.1.has (nd' := { nd with es := nd.es.take r ++ nd.es.drop (r + 1) }) rfl rfl rfl).1
      have hcall := sdelE_st HZ.out.1.inv HZ.out.2.1 hBz HVE.out r (by rw [HVE.out.2]; exact hrl)
      have HC := (show Hid _ from hcall)
      clear hz hcb hcall hrl
      go_wp2_with fail
      refine (leaf_any B b' nd _ nN).mono ?_
      rintro e w' ⟨rfl, hw'⟩
      subst w'
      rw [HCB.out]
      clear nN
      go_wp2_with fail
      refine Calls.mono HC.out ?_
      rintro e wf ⟨rfl, hput⟩
      have z := hput.2.2 b' nd 1 HZ.out.2.1
      rw [c1, f1] at z
      have y1 := z.1
      have y2 := z.2
      have HPUT := (show Hid _ from hput)
      clear z hput HC c1 f1
      go_upto_region 22 with fail
      obtain ⟨W6, hW6⟩ : ∃ W6, W6 = wf.setCell ⟨b', 1, none⟩ (.slice (some ⟨ge, 0, none⟩) (le - 1) cape) := ⟨_, rfl⟩
      rw [← hW6]
      have HX : Hid (∃ σ', Inv B W6 σ' ∧ Kp B w2 W6 ∧ Sub σ σ' h b (del k (cont σ h b))) := by
        obtain ⟨p1, p2, -⟩ := HPUT.out
        rw [← hW6] at p1 p2
        exact ⟨_, p1, HZ.out.1.kp.trans p2, HZ.out.1.wand _ (Sub.leaf HZ.out.1.wf HZ.out.2.1 HZ.out.1.srt HZ.out.2.2 HZ.out.1.has (nd' := { nd with ve := .slice (some ⟨ge, 0, none⟩) (le - 1) cape, es := nd.es.take r ++ nd.es.drop (r + 1) }) rfl rfl rfl).2⟩
      clear hW6 y1 y2 HPUT HZ hBz
      obtain ⟨σ', hI', hK', hsub⟩ := HX.out
      have hS6 : W6.heap[S]? = some (.cells cur 36 (0, 0)) := hK'.cell HB2.out.2.2.2.1 (by decide)
      obtain ⟨s0, s1, s2, s3, s4⟩ := HCELL.out W6 hS6
      have hnw : IntKind.i64.wrap (n - 1) = n - 1 := IntWalk.i64_in _ (by omega)
      have hI7 := hI'.setOth (j := 1) (.int .i64 (n - 1)) hS6 (by decide)
      have hS7 := heap_setCell_at (j := 1) (.int .i64 (n - 1)) hS6
      have hK7 : KpS B S w2 (W6.setCell ⟨S, 1, none⟩ (.int .i64 (n - 1))) := (KpS.of hK').trans (KpS.setCell _ hBS)
      have H7 : Hid (Inv B (W6.setCell ⟨S, 1, none⟩ (.int .i64 (n - 1))) σ' ∧ (W6.setCell ⟨S, 1, none⟩ (.int .i64 (n - 1))).heap[S]? = some (.cells (cur.setIfInBounds 1 (.int .i64 (n - 1))) 36 (0, 0)) ∧ KpS B S w2 (W6.setCell ⟨S, 1, none⟩ (.int .i64 (n - 1))) ∧ Sub σ σ' h b (del k (cont σ h b))) := ⟨hI7, hS7, hK7, hsub⟩
      clear hI' hK' hsub hS6 hI7 hS7 hK7 HX
      go_upto_region 23 with fail
      generalize W6.setCell ⟨S, 1, none⟩ (.int .i64 (n - 1)) = W7 at H7 ⊢
      clear s0 s1 s2 s3 s4
      obtain ⟨nb, hnb, hnb31, hlfb, -⟩ := H7.out.2.2.2.wf.get
      have nB := H7.out.1.node b nb hnb
      obtain ⟨ab, capb, hvb⟩ := ownsRow_shape nB.ents
      obtain ⟨lb, hlb⟩ : ∃ lb, lb = nb.es.length := ⟨_, rfl⟩
      rw [← hlb] at hvb
      have b1 : W7.cell? ⟨b, 1, none⟩ = some (.slice ab lb capb) := by rw [nB.cells.2.1, hvb]
      have s0 : W7.cell? ⟨S, 0, none⟩ = some (.pointer (some ⟨b, 0, none⟩)) := by
        rw [cell_of_row W7 S 0 _ 36 (0, 0) H7.out.2.1, Array.getElem?_setIfInBounds]
        simp [HALL.out.2.2.2.2.2.1]
      have s3 : W7.frozen? ⟨S, 0, none⟩ = false := by simp [World.frozen?, H7.out.2.1]
      have hp4 : W7.heap[w.heap.size]? = some Z47 := H7.out.2.2.1.oth _ _ hne4 HB2.out.2.1 (fun _ _ _ e => by cases e; decide)
      have hp6 : W7.heap[w1.heap.size]? = some (.cells #[.int .u64 vc, .int .u64 vs, .nilIface] 47 (0, 0)) := H7.out.2.2.1.oth _ _ hne6 HB2.out.2.2.1 (fun _ _ _ e => by cases e; decide)
      have q0 : W7.cell? ⟨w1.heap.size, 0, none⟩ = some (.int .u64 vc) := by rw [cell_of_row W7 _ 0 _ 47 (0, 0) hp6]; rfl
      have q1 : W7.cell? ⟨w1.heap.size, 1, none⟩ = some (.int .u64 vs) := by rw [cell_of_row W7 _ 1 _ 47 (0, 0) hp6]; rfl
      have q2 : W7.cell? ⟨w1.heap.size, 2, none⟩ = some .nilIface := by rw [cell_of_row W7 _ 2 _ 47 (0, 0) hp6]; rfl
      have z0 : W7.cell? ⟨w.heap.size, 0, none⟩ = some (.int .u64 0) := by rw [cell_of_row W7 _ 0 _ 47 (0, 0) hp4]; rfl
      have z1 : W7.cell? ⟨w.heap.size, 1, none⟩ = some (.int .u64 0) := by rw [cell_of_row W7 _ 1 _ 47 (0, 0) hp4]; rfl
      have z2 : W7.cell? ⟨w.heap.size, 2, none⟩ = some .nilIface := by rw [cell_of_row W7 _ 2 _ 47 (0, 0) hp4]; rfl
      have f0 : W7.frozen? ⟨w.heap.size, 0, none⟩ = false := by simp [World.frozen?, hp4]
      have f1 : W7.frozen? ⟨w.heap.size, 1, none⟩ = false := by simp [World.frozen?, hp4]
      have f2 : W7.frozen? ⟨w.heap.size, 2, none⟩ = false := by simp [World.frozen?, hp4]
      have H4 : Hid (W7.heap[w.heap.size]? = some Z47) := hp4
      have HNB : Hid (σ' b = some nb ∧ lb = nb.es.length) := ⟨hnb, hlb⟩
      have hsrt : Hid (Srt (del k (cont σ h b))) := HALL.out.2.1.srt.sub (del_sub _ _)
      have hne64 : ¬ w.heap.size = w1.heap.size := fun e => hne46 e.symm
      -- what the stores into the result's cell leave
      have fin : ∀ (W8 : World) (b2 : Nat) (x0 x1 x2 : Value), Inv B W8 σ' → KpS B S w2 W8 → W8.heap[w.heap.size]? = some Z47 → W8.heap[S]? = some (.cells ((cur.setIfInBounds 1 (.int .i64 (n - 1))).setIfInBounds 0 (.pointer (some ⟨b2, 0, none⟩))) 36 (0, 0)) →
          Inv B (((W8.setCell ⟨w.heap.size, 0, none⟩ x0).setCell ⟨w.heap.size, 1, none⟩ x1).setCell ⟨w.heap.size, 2, none⟩ x2) σ' ∧ KpS B S w (((W8.setCell ⟨w.heap.size, 0, none⟩ x0).setCell ⟨w.heap.size, 1, none⟩ x1).setCell ⟨w.heap.size, 2, none⟩ x2) ∧
          (((W8.setCell ⟨w.heap.size, 0, none⟩ x0).setCell ⟨w.heap.size, 1, none⟩ x1).setCell ⟨w.heap.size, 2, none⟩ x2).heap[S]? = some (.cells ((cur.setIfInBounds 1 (.int .i64 (n - 1))).setIfInBounds 0 (.pointer (some ⟨b2, 0, none⟩))) 36 (0, 0)) := by
        intro W8 b2 x0 x1 x2 g1 g2 g3 g4
        have e1 := heap_setCell_at (j := 0) x0 g3
        have e2 := heap_setCell_at (j := 1) x1 e1
        refine ⟨((g1.setOth x0 g3 (by decide)).setOth x1 e1 (by decide)).setOth x2 e2 (by decide), ⟨?_, fun kk o hk h1 h2 => ?_⟩, ?_⟩
        · refine Below.setCell (Below.setCell (Below.setCell ((HB2.out.1.mono hB).trans g2.bel) (p := ⟨w.heap.size, 0, none⟩) hB _) (p := ⟨w.heap.size, 1, none⟩) hB _) (p := ⟨w.heap.size, 2, none⟩) hB _
        · have hkw : kk < w.heap.size := heap_lt h1
          rw [heap_setCell_not _ (by omega), heap_setCell_not _ (by omega), heap_setCell_not _ (by omega)]
          exact g2.oth kk o hk (by rw [HB2.out.1.block kk hkw]; exact h1) h2
        · rw [heap_setCell_not _ (fun e => hne4 e.symm), heap_setCell_not _ (fun e => hne4 e.symm), heap_setCell_not _ (fun e => hne4 e.symm)]; exact g4
      have FIN := (show Hid _ from fin)
      have same0 : Hid ((cur.setIfInBounds 1 (.int .i64 (n - 1))).setIfInBounds 0 (.pointer (some ⟨b, 0, none⟩)) = cur.setIfInBounds 1 (.int .i64 (n - 1))) := by
        exact set_same (by rw [Array.getElem?_setIfInBounds, if_neg (by decide)]; exact HALL.out.2.2.2.2.2.1)
      clear fin hnb hlb hvb hp4 hp6 HCELL
      have hbS : ¬ b = S := fun e => by have := nB.hd; rw [e, H7.out.2.1] at this; simp at this
      by_cases hz : lb = 0
      · subst hz
        cases h with
        | zero =>
          have hcb : nb.cs.isEmpty = true := by rw [hlfb.2 rfl]; rfl
          have HCB := (show Hid (nb.cs.isEmpty = true) from hcb)
          clear hcb hlfb
          go_wp2_with fail
          refine (leaf_any B b nb _ nB).mono ?_
          rintro e w' ⟨rfl, hw'⟩
          subst w'
          rw [HCB.out]
          clear nB
          go_wp2_with fail
          (try simp only [Exit.inBlock, Exit.then]); refine bodyPost_ret (results_pair (P := Try.prog) rfl _ _ w.heap.size 47 #[.int .u64 vc, .int .u64 vs, .nilIface] (0, 0) _ rfl (heap_setCell_at (j := 2) .nilIface (heap_setCell_at (j := 1) (.int .u64 vs) (heap_setCell_at (j := 0) (.int .u64 vc) H4.out))) Try.underlying47 rfl (by kernel_rfl)) rfl ?_
          obtain ⟨k1, k2⟩ := root_keep H7.out.2.2.2 hsrt.out (.inl rfl)
          obtain ⟨m1, m2, m3⟩ := FIN.out W7 b (.int .u64 vc) (.int .u64 vs) .nilIface H7.out.1 H7.out.2.2.1 H4.out (by rw [same0.out]; exact H7.out.2.1)
          exact ⟨_, σ', 0, b, rfl, m1, k1, k2, m2, m3⟩
        | succ h0 =>
          obtain ⟨c, hc, k1, k2⟩ := root_drop H7.out.2.2.2 hsrt.out HNB.out.1 (List.length_eq_zero_iff.1 HNB.out.2.symm)
          have hcb : nb.cs.isEmpty = false := by rw [hc]; rfl
          have HCB := (show Hid (nb.cs.isEmpty = false) from hcb)
          have hcl : 0 < nb.cs.length := by rw [hc]; simp
          obtain ⟨gb, lc, capc, HVB, hlc0, hlc1, b2, -, -⟩ := nB.rowC hcl
          have x0 := nB.kid HVB.out.1 hcl
          have hc0 : nb.cs[0] = c := by simp [hc]
          rw [hc0] at x0
          have hlcI : (0 : Int) < lc := by omega
          have HK := (show Hid _ from (⟨k1, k2⟩ : Tree σ' h0 c ∧ _))
          have H4S : Hid ((W7.setCell ⟨S, 0, none⟩ (.pointer (some ⟨c, 0, none⟩))).heap[w.heap.size]? = some Z47) := by unfold Hid; rw [heap_setCell_not _ hne4]; exact H4.out
          clear hcb hlfb hc hc0 hcl k1 k2
          go_wp2_with fail
          refine (leaf_any B b nb _ nB).mono ?_
          rintro e w' ⟨rfl, hw'⟩
          subst w'
          rw [HCB.out]
          clear nB
          go_wp2_with fail
          (try simp only [Exit.inBlock, Exit.then]); refine bodyPost_ret (results_pair (P := Try.prog) rfl _ _ w.heap.size 47 #[.int .u64 vc, .int .u64 vs, .nilIface] (0, 0) _ rfl (heap_setCell_at (j := 2) .nilIface (heap_setCell_at (j := 1) (.int .u64 vs) (heap_setCell_at (j := 0) (.int .u64 vc) H4S.out))) Try.underlying47 rfl (by kernel_rfl)) rfl ?_
          obtain ⟨m1, m2, m3⟩ := FIN.out (W7.setCell ⟨S, 0, none⟩ (.pointer (some ⟨c, 0, none⟩))) c (.int .u64 vc) (.int .u64 vs) .nilIface (H7.out.1.setOth _ H7.out.2.1 (by decide)) (H7.out.2.2.1.trans (KpS.setCell _ hBS)) (by rw [heap_setCell_not _ hne4]; exact H4.out) (heap_setCell_at _ H7.out.2.1)
          exact ⟨_, σ', h0, c, rfl, m1, HK.out.1, HK.out.2, m2, m3⟩
      · have hzI : ¬ (lb : Int) = 0 := by omega
        have hzb : ((lb : Int) == 0) = false := by simp; omega
        clear nB hlfb
        go_wp2_with fail
        (try simp only [Exit.inBlock, Exit.then]); refine bodyPost_ret (results_pair (P := Try.prog) rfl _ _ w.heap.size 47 #[.int .u64 vc, .int .u64 vs, .nilIface] (0, 0) _ rfl (heap_setCell_at (j := 2) .nilIface (heap_setCell_at (j := 1) (.int .u64 vs) (heap_setCell_at (j := 0) (.int .u64 vc) H4.out))) Try.underlying47 rfl (by kernel_rfl)) rfl ?_
        obtain ⟨k1, k2⟩ := root_keep H7.out.2.2.2 hsrt.out (.inr (by rw [nE_of HNB.out.1, ← HNB.out.2]; omega))
        obtain ⟨m1, m2, m3⟩ := FIN.out W7 b (.int .u64 vc) (.int .u64 vs) .nilIface H7.out.1 H7.out.2.2.1 H4.out (by rw [same0.out]; exact H7.out.2.1)
        exact ⟨_, σ', h, b, rfl, m1, k1, k2, m2, m3⟩
    | succ g =>
      have t := HZ.out.1.at HZ.out.2.1
      have hcb : nd.cs.isEmpty = false := by cases hq : nd.cs with | nil => exact absurd hq (HZ.out.1.wf.ne HZ.out.2.1) | cons _ _ => rfl
      have HCB := (show Hid (nd.cs.isEmpty = false) from hcb)
      have nN := HZ.out.1.inv.node b' nd HZ.out.2.1
      have c3 := nN.cells.2.2.2
      have f3 := nN.free 3
      obtain ⟨kk, hkk⟩ : ∃ kk, kk = nd.keys := ⟨_, rfl⟩
      rw [← hkk] at c3
      have hkb : 0 ≤ kk ∧ kk ≤ 5000 := by
        have h1 := t.shape.2.2.1
        have h2 := HZ.out.1.few
        omega
      have hkw : IntKind.i64.wrap (kk - 1) = kk - 1 := IntWalk.i64_in _ (by omega)
      obtain ⟨hI8, hK8⟩ := HZ.out.1.inv.setKeys HZ.out.2.1 (kk - 1)
      have H8 : Hid (Inv B (wz.setCell ⟨b', 3, none⟩ (.int .i64 (kk - 1))) (upd σr b' (dec nd)) ∧ Kp B wz (wz.setCell ⟨b', 3, none⟩ (.int .i64 (kk - 1)))) := ⟨by rw [hkk] at hI8 ⊢; exact hI8, hK8⟩
      have HT := (show Hid _ from t)
      clear hcb hkk hI8 hK8 t
      go_wp2_with fail
      refine (leaf_any B b' nd _ nN).mono ?_
      rintro e w' ⟨rfl, hw'⟩
      subst w'
      rw [HCB.out]
      clear nN
      go_upto_region 9 with fail
      generalize wz.setCell ⟨b', 3, none⟩ (.int .i64 (kk - 1)) = W8 at H8 ⊢
      clear c3 f3 hkw
      have hB8 : B ≤ W8.heap.size := Nat.le_trans hBz H8.out.2.size
      have hkS : ∀ W, Kp B wz W → W.heap[S]? = some (.cells cur 36 (0, 0)) := fun W hK => (HZ.out.1.kp.trans hK).cell HB2.out.2.2.2.1 (by decide)
      have HKS := (show Hid _ from hkS)
      clear hkS
      by_cases hf : fnd nd.es k' r = true
      · obtain ⟨e1, x, e2, hes, he1, hxk⟩ := found_at hf
        have HF := (show Hid (fnd nd.es k' r = true) from hf)
        obtain ⟨a, p, d', hcs0, ha⟩ := split_at nd.cs r (by have := HT.out.shape.1; have := HZ.out.2.2.le; omega)
        obtain ⟨q, d, hd'⟩ : ∃ q d, d' = q :: d := by
          cases d' with
          | nil =>
            exfalso
            have h1 := HT.out.shape.1
            rw [hcs0, hes] at h1; simp at h1; omega
          | cons q d => exact ⟨q, d, rfl⟩
        subst hd'
        obtain ⟨n1, hp, hpb, wp, a1, a2, a3, a4, a5, a6, a7⟩ := HT.out.kid (p := p) (by rw [hcs0]; simp)
        obtain ⟨n2', hq, hqb, wq, b1, b2, b3, b4, b5, b6, b7⟩ := HT.out.kid (p := q) (by rw [hcs0]; simp)
        have hp8 : upd σr b' (dec nd) p = some n1 := by rw [upd_other _ _ _ _ hpb]; exact hp
        have hq8 : upd σr b' (dec nd) q = some n2' := by rw [upd_other _ _ _ _ hqb]; exact hq
        have nB := H8.out.1.node b' (dec nd) (upd_same _ _ _)
        have nP := H8.out.1.node p n1 hp8
        have nQ := H8.out.1.node q n2' hq8
        obtain ⟨gk, lk, capk, HVK, hlk0, hlk1, d2, -, -⟩ := nB.rowC (by show 0 < nd.cs.length; rw [hcs0]; simp; omega)
        have hlk : r + 1 < lk := by rw [HVK.out.2]; show r + 1 < nd.cs.length; rw [hcs0, ← ha]; simp
        have kp : W8.cell? ⟨gk, r, none⟩ = some (.pointer (some ⟨p, 0, none⟩)) := by
          have := nB.kid HVK.out.1 (i := r) (by show r < nd.cs.length; rw [hcs0, ← ha]; simp)
          rw [this]
          have h2 : (dec nd).cs[r]'(by show r < nd.cs.length; rw [hcs0, ← ha]; simp) = p := by show nd.cs[r]'_ = p; simp [hcs0, ← ha]
          rw [h2]
        have kq : W8.cell? ⟨gk, r + 1, none⟩ = some (.pointer (some ⟨q, 0, none⟩)) := by
          have := nB.kid HVK.out.1 (i := r + 1) (by show r + 1 < nd.cs.length; rw [hcs0, ← ha]; simp)
          rw [this]
          have h2 : (dec nd).cs[r + 1]'(by show r + 1 < nd.cs.length; rw [hcs0, ← ha]; simp) = q := by show nd.cs[r + 1]'_ = q; simp [hcs0, ← ha]
          rw [h2]
        obtain ⟨gp, lp, capp, HVP, hlp0, hlp1, pe, -, -⟩ := nP.rowE (by omega)
        obtain ⟨gq, lq, capq, HVQ, hlq0, hlq1, qe, -, -⟩ := nQ.rowE (by omega)
        have hrI : (r : Int) + 1 < lk := by omega
        have HX : Hid (nd.es = e1 ++ x :: e2 ∧ e1.length = r ∧ x.k = k' ∧ nd.cs = a ++ p :: q :: d ∧ a.length = r) := ⟨hes, he1, hxk, hcs0, ha⟩
        have HPQ : Hid (σr p = some n1 ∧ σr q = some n2' ∧ p ≠ b' ∧ q ≠ b' ∧ WF σr g p ∧ WF σr g q ∧ 15 ≤ n1.es.length ∧ 15 ≤ n2'.es.length ∧ (n1.cs = [] ↔ g = 0) ∧ (n2'.cs = [] ↔ g = 0)) := ⟨hp, hq, hpb, hqb, wp, wq, a1, b1, a4, b4⟩
        clear hf hes he1 hxk hcs0 ha hp hq hpb hqb wp wq hp8 hq8 nB nP nQ a4 b4
        rw [HF.out]
        go_wp2_with fail
        go_quiet (fail)
        have H9 : Hid (Inv B (W8.drewN nq) (upd σr b' (dec nd)) ∧ Kp B wz (W8.drewN nq)) := ⟨H8.out.1.drewN nq, H8.out.2.trans (Kp.drewN B W8 nq)⟩
        have hB9 : B ≤ (W8.drewN nq).heap.size := hB8
        have pe9 : (W8.drewN nq).cell? ⟨p, 1, none⟩ = some (.slice (some ⟨gp, 0, none⟩) lp capp) := pe
        have qe9 : (W8.drewN nq).cell? ⟨q, 1, none⟩ = some (.slice (some ⟨gq, 0, none⟩) lq capq) := qe
        clear pe qe kp kq d2 H8 hB8
        generalize W8.drewN nq = W9 at H9 hB9 pe9 qe9 ⊢
        by_cases h15 : 15 < lp
        · have hd15 : decide (15 < (lp : Int)) = true := by simp; omega
          have h15I : 15 < (lp : Int) := by omega
          have pbk : upd σr b' (dec nd) p = some n1 := by rw [upd_other _ _ _ _ HPQ.out.2.2.1]; exact HPQ.out.1
          have hon := HT.out.only (dec nd) p (by rw [HX.out.2.2.2.1]; simp)
          have hlast := last_any B (upd σr b' (dec nd)) g p W9.drew H9.out.1.drew (by simpa using hB9) (hon.2.2.1 HPQ.out.2.2.2.2.1) (fun _ => by rw [hon.2.2.2, nE_of HPQ.out.1]; have := HPQ.out.2.2.2.2.2.2.1; omega)
          have HL : Hid (Calls Try.prog 27 #[.pointer (some ⟨p, 0, none⟩)] W9.drew fun e w' => ∃ (y : Ent) (Q : List Ent), e = .returned (.agg #[.int .u64 y.k, .int .u64 y.c, .int .u64 y.s, .nilIface]) ∧ cont (upd σr b' (dec nd)) g p = Q ++ [y] ∧ Below W9.drew.heap.size W9.drew w') := hlast
          have HON : Hid (cont (upd σr b' (dec nd)) g p = cont σr g p) := hon.1
          have nB := H9.out.1.node b' (dec nd) (upd_same _ _ _)
          obtain ⟨ge, le, cape, HVE, hle0, hle1, be, -, -⟩ := nB.rowE (by exact hpos)
          have hrl : r < nd.es.length := by rw [HX.out.1, ← HX.out.2.1]; simp
          have hreI : (r : Int) < le := by rw [HVE.out.2]; show (r : Int) < (nd.es.length : Int); omega
          clear hlast hon pbk nB
          go_upto_region 13 with fail
          go_cut [] from 28 to 141 (fun wx => Hid (∃ (y : Ent) (Pi : List Ent), cont σr g p = Pi ++ [y] ∧ Inv B wx (upd σr b' { dec nd with es := e1 ++ y :: e2 }) ∧ Kp B wz wx))
          case first =>
            clear pe9 qe9
            go_region_with (go_at_call 27; refine Calls.mono HL.out ?_; rintro e wf ⟨y, Q, rfl, hct, hbel⟩; have hIf := H9.out.1.drew.below hbel (Nat.le_refl _); have nF := hIf.node b' (dec nd) (upd_same _ _ _); have be2 : wf.cell? ⟨b', 1, none⟩ = some (.slice (some ⟨ge, 0, none⟩) le cape) := (by rw [nF.cells.2.1, HVE.out.1]); have xx := nF.entry HVE.out.1 (i := r) (by exact hrl); have x0 := xx.1; have x1 := xx.2.1; have x2 := xx.2.2.1; have x3 := xx.2.2.2; have g0 := nF.freeE HVE.out.1 (r * 4); have g1 := nF.freeE HVE.out.1 (r * 4 + 1); have g2 := nF.freeE HVE.out.1 (r * 4 + 2); have g3 := nF.freeE HVE.out.1 (r * 4 + 3); have HFF := (show Hid (_ ∧ _ ∧ _) from ⟨hct, hbel, hIf⟩); clear hct hbel hIf nF xx)
            all_goals
              go_wp2_with fail
              go_meet
              obtain ⟨hct, hbel, hIf⟩ := HFF.out
              obtain ⟨hI, hK⟩ := hIf.setEntry (upd_same _ _ _) HVE.out.1 (i := r) (by exact hrl) y
              rw [upd_upd] at hI
              have hset : (dec nd).es.set r y = e1 ++ y :: e2 := by show nd.es.set r y = _; rw [HX.out.1, ← HX.out.2.1]; simp
              rw [hset] at hI
              exact ⟨y, Q, by rw [← HON.out]; exact hct, hI, ((H9.out.2.trans (Kp.drew B W9)).trans (Kp.of_below hbel (by simpa using hB9))).trans hK⟩
          case rest =>
            obtain ⟨y, Pi, hct, hI, hK⟩ := hcut.out
            have hprep := prep_pred HT.out HX.out.2.2.2.1 HX.out.1 (by rw [HX.out.2.2.2.2, HX.out.2.1]) HX.out.2.2.1 hct (by rw [nE_of HPQ.out.1, ← HVP.out.2]; exact h15) { dec nd with es := e1 ++ y :: e2 } rfl rfl rfl
            have nB := hI.node b' _ (upd_same _ _ _)
            obtain ⟨ge2, le2, cape2, HVE2, hle02, hle12, be2, -, -⟩ := nB.rowE (by simp; omega)
            have hrl2 : r < (e1 ++ y :: e2).length := by rw [← HX.out.2.1]; simp
            have hre2 : (r : Int) < le2 := by rw [HVE2.out.2]; show (r : Int) < ((e1 ++ y :: e2).length : Int); omega
            obtain ⟨x0, -, -, -⟩ := nB.entry HVE2.out.1 (i := r) (by exact hrl2)
            have hy : (e1 ++ y :: e2)[r]'hrl2 = y := by simp [← HX.out.2.1]
            have x0' : wc.cell? ⟨ge2, r * 4, none⟩ = some (.int .u64 y.k) := by rw [x0]; show some (Value.int .u64 ((e1 ++ y :: e2)[r]'hrl2).k) = _; rw [hy]
            have hcl : r < nd.cs.length := by rw [HX.out.2.2.2.1, ← HX.out.2.2.2.2]; simp
            obtain ⟨gk2, lk2, capk2, HVK2, hlk02, hlk12, bk2, -, -⟩ := nB.rowC (by show 0 < nd.cs.length; omega)
            have hkid := nB.kid HVK2.out.1 (i := r) (by exact hcl)
            have hkid' : wc.cell? ⟨gk2, r, none⟩ = some (.pointer (some ⟨p, 0, none⟩)) := by
              rw [hkid]
              have h2 : nd.cs[r]'hcl = p := by simp [HX.out.2.2.2.1, ← HX.out.2.2.2.2]
              show some (Value.pointer (some ⟨nd.cs[r]'hcl, 0, none⟩)) = _
              rw [h2]
            have hriI : (r : Int) < lk2 := by rw [HVK2.out.2]; show (r : Int) < (nd.cs.length : Int); omega
            obtain ⟨nc, hnc, -⟩ := (hprep.kw p (by rw [hprep.cs]; simp)).1.get
            have hown := own_any B S p nc ⟨gk2, r, none⟩ wc (hI.node p nc hnc) (HCELL.out wc (HKS.out wc hK)).2.2.1 hkid'
            have HOWN := (show Hid _ from hown)
            obtain ⟨σ2, HN⟩ : ∃ σ2, Hid (Rnd B w2 σ h b k wc g p y.k σ2) := ⟨_, HZ.out.1.next hI hK hprep⟩
            clear hcut nB hcl hkid hnc hown hprep hI hK hct x0 hy hrl2 HL H9 hrl pe9 qe9 be
            go_wp2_with fail
            refine Calls.mono HOWN.out ?_
            rintro e wg ⟨rfl, n3, hwg⟩
            have HN2 : Hid (Rnd B w2 σ h b k wg g p y.k σ2) := by
              obtain ⟨v1, v2, v3, v4, v5, v6, v7, v8, v9⟩ := HN.out
              rw [hwg]
              exact ⟨v1.drewN n3, v2.trans (Kp.drewN B wc n3), v3, v4, v5, v6, v7, v8, v9⟩
            clear hwg HN HOWN bk2 hkid' x0' be2
            go_wp2_with fail
            go_roundg g
            case measure => omega
            case rel => (repeat apply Exists.intro); exact ⟨rfl, rfl, σ2, HN2.out⟩
        · have hd15 : decide (15 < (lp : Int)) = false := by simp; omega
          have h15I : ¬ 15 < (lp : Int) := by omega
          by_cases g15 : 15 < lq
          · have hg15 : decide (15 < (lq : Int)) = true := by simp; omega
            have g15I : 15 < (lq : Int) := by omega
            have pbk : upd σr b' (dec nd) q = some n2' := by rw [upd_other _ _ _ _ HPQ.out.2.2.2.1]; exact HPQ.out.2.1
            have hon := HT.out.only (dec nd) q (by rw [HX.out.2.2.2.1]; simp)
            have hlast := first_any B (upd σr b' (dec nd)) g q W9.drew H9.out.1.drew (by simpa using hB9) (hon.2.2.1 HPQ.out.2.2.2.2.2.1) (fun _ => by rw [hon.2.2.2, nE_of HPQ.out.2.1]; have := HPQ.out.2.2.2.2.2.2.2.1; omega)
            have HL : Hid (Calls Try.prog 28 #[.pointer (some ⟨q, 0, none⟩)] W9.drew fun e w' => ∃ (y : Ent) (Q : List Ent), e = .returned (.agg #[.int .u64 y.k, .int .u64 y.c, .int .u64 y.s, .nilIface]) ∧ cont (upd σr b' (dec nd)) g q = y :: Q ∧ Below W9.drew.heap.size W9.drew w') := hlast
            have HON : Hid (cont (upd σr b' (dec nd)) g q = cont σr g q) := hon.1
            have nB := H9.out.1.node b' (dec nd) (upd_same _ _ _)
            obtain ⟨ge, le, cape, HVE, hle0, hle1, be, -, -⟩ := nB.rowE (by exact hpos)
            have hrl : r < nd.es.length := by rw [HX.out.1, ← HX.out.2.1]; simp
            have hreI : (r : Int) < le := by rw [HVE.out.2]; show (r : Int) < (nd.es.length : Int); omega
            clear hlast hon pbk nB
            go_upto_region 16 with fail
            go_cut [] from 28 to 141 (fun wx => Hid (∃ (y : Ent) (Pi : List Ent), cont σr g q = y :: Pi ∧ Inv B wx (upd σr b' { dec nd with es := e1 ++ y :: e2 }) ∧ Kp B wz wx))
            case first =>
              clear pe9 qe9
              go_region_with (go_at_call 28; refine Calls.mono HL.out ?_; rintro e wf ⟨y, Q, rfl, hct, hbel⟩; have hIf := H9.out.1.drew.below hbel (Nat.le_refl _); have nF := hIf.node b' (dec nd) (upd_same _ _ _); have be2 : wf.cell? ⟨b', 1, none⟩ = some (.slice (some ⟨ge, 0, none⟩) le cape) := (by rw [nF.cells.2.1, HVE.out.1]); have xx := nF.entry HVE.out.1 (i := r) (by exact hrl); have x0 := xx.1; have x1 := xx.2.1; have x2 := xx.2.2.1; have x3 := xx.2.2.2; have g0 := nF.freeE HVE.out.1 (r * 4); have g1 := nF.freeE HVE.out.1 (r * 4 + 1); have g2 := nF.freeE HVE.out.1 (r * 4 + 2); have g3 := nF.freeE HVE.out.1 (r * 4 + 3); have HFF := (show Hid (_ ∧ _ ∧ _) from ⟨hct, hbel, hIf⟩); clear hct hbel hIf nF xx)
              all_goals
                go_wp2_with fail
                go_meet
                obtain ⟨hct, hbel, hIf⟩ := HFF.out
                obtain ⟨hI, hK⟩ := hIf.setEntry (upd_same _ _ _) HVE.out.1 (i := r) (by exact hrl) y
                rw [upd_upd] at hI
                have hset : (dec nd).es.set r y = e1 ++ y :: e2 := by show nd.es.set r y = _; rw [HX.out.1, ← HX.out.2.1]; simp
                rw [hset] at hI
                exact ⟨y, Q, by rw [← HON.out]; exact hct, hI, ((H9.out.2.trans (Kp.drew B W9)).trans (Kp.of_below hbel (by simpa using hB9))).trans hK⟩
            case rest =>
              obtain ⟨y, Pi, hct, hI, hK⟩ := hcut.out
              have hprep := prep_succ HT.out HX.out.2.2.2.1 HX.out.1 (by rw [HX.out.2.2.2.2, HX.out.2.1]) HX.out.2.2.1 hct (by rw [nE_of HPQ.out.2.1, ← HVQ.out.2]; exact g15) { dec nd with es := e1 ++ y :: e2 } rfl rfl rfl
              have nB := hI.node b' _ (upd_same _ _ _)
              obtain ⟨ge2, le2, cape2, HVE2, hle02, hle12, be2, -, -⟩ := nB.rowE (by simp; omega)
              have hrl2 : r < (e1 ++ y :: e2).length := by rw [← HX.out.2.1]; simp
              have hre2 : (r : Int) < le2 := by rw [HVE2.out.2]; show (r : Int) < ((e1 ++ y :: e2).length : Int); omega
              obtain ⟨x0, -, -, -⟩ := nB.entry HVE2.out.1 (i := r) (by exact hrl2)
              have hy : (e1 ++ y :: e2)[r]'hrl2 = y := by simp [← HX.out.2.1]
              have x0' : wc.cell? ⟨ge2, r * 4, none⟩ = some (.int .u64 y.k) := by rw [x0]; show some (Value.int .u64 ((e1 ++ y :: e2)[r]'hrl2).k) = _; rw [hy]
              have hcl : r + 1 < nd.cs.length := by rw [HX.out.2.2.2.1, ← HX.out.2.2.2.2]; simp
              obtain ⟨gk2, lk2, capk2, HVK2, hlk02, hlk12, bk2, -, -⟩ := nB.rowC (by show 0 < nd.cs.length; omega)
              have hkid := nB.kid HVK2.out.1 (i := r + 1) (by exact hcl)
              have hkid' : wc.cell? ⟨gk2, r + 1, none⟩ = some (.pointer (some ⟨q, 0, none⟩)) := by
                rw [hkid]
                have h2 : nd.cs[r + 1]'hcl = q := by simp [HX.out.2.2.2.1, ← HX.out.2.2.2.2]
                show some (Value.pointer (some ⟨nd.cs[r + 1]'hcl, 0, none⟩)) = _
                rw [h2]
              have hriI : (r : Int) + 1 < lk2 := by rw [HVK2.out.2]; show (r : Int) + 1 < (nd.cs.length : Int); omega
              obtain ⟨nc, hnc, -⟩ := (hprep.kw q (by rw [hprep.cs]; simp)).1.get
              have hown := own_any B S q nc ⟨gk2, r + 1, none⟩ wc (hI.node q nc hnc) (HCELL.out wc (HKS.out wc hK)).2.2.1 hkid'
              have HOWN := (show Hid _ from hown)
              obtain ⟨σ2, HN⟩ : ∃ σ2, Hid (Rnd B w2 σ h b k wc g q y.k σ2) := ⟨_, HZ.out.1.next hI hK hprep⟩
              clear hcut nB hcl hkid hnc hown hprep hI hK hct x0 hy hrl2 HL H9 hrl pe9 qe9 be
              go_wp2_with fail
              refine Calls.mono HOWN.out ?_
              rintro e wg ⟨rfl, n3, hwg⟩
              have HN2 : Hid (Rnd B w2 σ h b k wg g q y.k σ2) := by
                obtain ⟨v1, v2, v3, v4, v5, v6, v7, v8, v9⟩ := HN.out
                rw [hwg]
                exact ⟨v1.drewN n3, v2.trans (Kp.drewN B wc n3), v3, v4, v5, v6, v7, v8, v9⟩
              clear hwg HN HOWN bk2 hkid' x0' be2
              go_wp2_with fail
              go_roundg g
              case measure => omega
              case rel => (repeat apply Exists.intro); exact ⟨rfl, rfl, σ2, HN2.out⟩
          · have hg15 : decide (15 < (lq : Int)) = false := by simp; omega
            have g15I : ¬ 15 < (lq : Int) := by omega
            have pbk : upd σr b' (dec nd) p = some n1 := by rw [upd_other _ _ _ _ HPQ.out.2.2.1]; exact HPQ.out.1
            have qbk : upd σr b' (dec nd) q = some n2' := by rw [upd_other _ _ _ _ HPQ.out.2.2.2.1]; exact HPQ.out.2.1
            have hpq : p ≠ q := fun e => ((HT.out.sep HX.out.2.2.2.1).1 p (foot_self _ _ _)).1 (e ▸ foot_self _ _ _)
            have hl1 : n1.es.length ≤ 15 := by rw [← HVP.out.2]; omega
            have hl2 : n2'.es.length ≤ 15 := by rw [← HVQ.out.2]; omega
            have hfew := HZ.out.1.few
            have hm := merge_any B S b' p q r (dec nd) n1 n2' e1 e2 x a d (upd σr b' (dec nd)) W9 H9.out.1 hB9 (upd_same _ _ _) pbk qbk (fun e => HPQ.out.2.2.1 e.symm) (fun e => HPQ.out.2.2.2.1 e.symm) hpq HX.out.1 HX.out.2.2.2.1 HX.out.2.1 HX.out.2.2.2.2 (HCELL.out W9 (HKS.out W9 H9.out.2)).2.2.1 (by omega) (by omega) (by rw [HPQ.out.2.2.2.2.2.2.2.2.1, HPQ.out.2.2.2.2.2.2.2.2.2]) (by omega) a6 (by omega) b6 (by omega)
            have HMM := (show Hid _ from hm)
            have HL12 : Hid (n1.es.length ≤ 15 ∧ n2'.es.length ≤ 15) := ⟨hl1, hl2⟩
            clear hm pbk qbk hpq hl1 hl2 hfew
            go_wp2_with fail
            refine Calls.mono HMM.out ?_
            rintro e wf ⟨rfl, nc', np', hI, hK0, p1, p2, p3, p4, p5, p6⟩
            have hK : Kp B wz wf := H9.out.2.trans hK0
            have hprep := merge_prep (B := B) (w := W9) (w' := wf) HT.out HX.out.2.2.2.1 HX.out.1 (by rw [HX.out.2.2.2.2, HX.out.2.1]) HPQ.out.1 HPQ.out.2.1 HL12.out.1 HL12.out.2 p1 p2 p3 p4 p5 (by rw [p6]; rfl) (.inr (.inl HX.out.2.2.1))
            have nB := hI.node b' _ hprep.at2
            have hcl : r < np'.cs.length := by rw [p5, ← HX.out.2.2.2.2]; simp
            obtain ⟨gk2, lk2, capk2, HVK2, hlk02, hlk12, bk2, -, -⟩ := nB.rowC (by omega)
            have hkid := nB.kid HVK2.out.1 (i := r) hcl
            have h2 : np'.cs[r]'hcl = p := by simp [p5, ← HX.out.2.2.2.2]
            rw [h2] at hkid
            have hriI : (r : Int) < lk2 := by rw [HVK2.out.2]; omega
            obtain ⟨nc, hnc, -⟩ := (hprep.kw p (by rw [hprep.cs]; simp)).1.get
            have hown := own_any B S p nc ⟨gk2, r, none⟩ wf (hI.node p nc hnc) (HCELL.out wf (HKS.out wf hK)).2.2.1 hkid
            have HOWN := (show Hid _ from hown)
            obtain ⟨σ2, HN⟩ : ∃ σ2, Hid (Rnd B w2 σ h b k wf g p k' σ2) := ⟨_, HZ.out.1.next hI hK hprep⟩
            clear nB hcl hnc hown hprep hI hK hK0 p1 p2 p3 p4 p5 p6 h2 HMM H9 pe9 qe9
            go_wp2_with fail
            refine Calls.mono HOWN.out ?_
            rintro e wg ⟨rfl, n3, hwg⟩
            have HN2 : Hid (Rnd B w2 σ h b k wg g p k' σ2) := by
              obtain ⟨v1, v2, v3, v4, v5, v6, v7, v8, v9⟩ := HN.out
              rw [hwg]
              exact ⟨v1.drewN n3, v2.trans (Kp.drewN B wf n3), v3, v4, v5, v6, v7, v8, v9⟩
            clear hwg HN HOWN bk2 hkid
            go_wp2_with fail
            go_roundg g
            case measure => omega
            case rel => exact ⟨p, k', rfl, rfl, σ2, HN2.out⟩
      · have nf : fnd nd.es k' r = false := by simpa using hf
        have HF := (show Hid (fnd nd.es k' r = false) from nf)
        have hfill := fill_any (S := S) HT.out H8.out.1 hB8 (HCELL.out W8 (HKS.out W8 H8.out.2)).2.2.1 HZ.out.1.few HZ.out.2.2 nf hpos
        have HFI := (show Hid _ from hfill)
        clear hfill nf hf
        rw [HF.out]
        go_wp2_with fail
        refine Calls.mono HFI.out ?_
        rintro e wf ⟨i', c, σ2, nd2, a, d, e1, e2, rfl, hI2, hK2, hprep, hai⟩
        have nB := hI2.node b' nd2 hprep.at2
        have hcl : i' < nd2.cs.length := by rw [hprep.cs, ← hai]; simp
        obtain ⟨gk, lk, capk, HVK, hlk0, hlk1, d2, -, -⟩ := nB.rowC (by omega)
        have hkid := nB.kid HVK.out.1 hcl
        have hci : nd2.cs[i'] = c := by simp [hprep.cs, ← hai]
        rw [hci] at hkid
        have hiI : (i' : Int) < lk := by rw [HVK.out.2]; omega
        obtain ⟨nc, hnc, -⟩ := (hprep.kw c (by rw [hprep.cs]; simp)).1.get
        have hown := own_any B S c nc ⟨gk, i', none⟩ wf (hI2.node c nc hnc) (HCELL.out wf (HKS.out wf (H8.out.2.trans hK2))).2.2.1 hkid
        have HOWN := (show Hid _ from hown)
        have HN : Hid (Rnd B w2 σ h b k wf g c k' σ2) := HZ.out.1.next hI2 (H8.out.2.trans hK2) hprep
        clear nB hcl hci hnc hown hprep hI2 hK2 hai HFI H8
        go_wp2_with fail
        refine Calls.mono HOWN.out ?_
        rintro e wg ⟨rfl, n3, hwg⟩
        have HN2 : Hid (Rnd B w2 σ h b k wg g c k' σ2) := by
          obtain ⟨v1, v2, v3, v4, v5, v6, v7, v8, v9⟩ := HN.out
          rw [hwg]
          exact ⟨v1.drewN n3, v2.trans (Kp.drewN B wf n3), v3, v4, v5, v6, v7, v8, v9⟩
        clear hwg HN HOWN d2 hkid
        go_wp2_with fail
        go_roundg g
        case measure => omega
        case rel => exact ⟨c, k', rfl, rfl, σ2, HN2.out⟩

end Go.Proofs.Qxb6613550a
