/-
  Sessions.Restore.
-/
import Derived.Test.Qxb6613550aRestP
import Derived.Test.Qxb6613550aFirst
namespace Go.Proofs.Qxb6613550a
open Go.RowKit Go.Maps
set_option linter.unusedVariables false

theorem Ses.del {B S M m : Nat} {w w3 : World} {σ σ' : Sto} {L : List Ent} {D : DataW Unit} {u o q : Int} {cur : Array Value} {h' b' : Nat} (h1 : Ses B S M w σ L m D u o cur) (p1 : Inv B w3 σ') (p2 : Tree σ' h' b') (p3 : cont σ' h' b' = Qxb6613550a.del q L) (p4 : KpS B S w w3)
    (p5 : w3.heap[S]? = some (.cells ((cur.setIfInBounds 1 (.int .i64 (L.length - 1))).setIfInBounds 0 (.pointer (some ⟨b', 0, none⟩))) 36 (0, 0))) (hk : hasK q L) :
    ∃ cur', Ses B S M w3 σ' (Qxb6613550a.del q L) m D u o cur' ∧ ∀ j, j ≠ 0 → j ≠ 1 → cur'[j]? = cur[j]? := by
  obtain ⟨cur3, hcur3⟩ : ∃ cur3, cur3 = (cur.setIfInBounds 1 (.int .i64 (L.length - 1))).setIfInBounds 0 (.pointer (some ⟨b', 0, none⟩)) := ⟨_, rfl⟩
  rw [← hcur3] at p5
  have gj : ∀ j, j ≠ 0 → j ≠ 1 → cur3[j]? = cur[j]? := fun j h0 h1 => by rw [hcur3, Array.getElem?_setIfInBounds, if_neg (by omega), Array.getElem?_setIfInBounds, if_neg (by omega)]
  have hl1 := del_len h1.srt hk
  have hsub : ∀ e ∈ Qxb6613550a.del q L, e ∈ L := fun e he => (del_sub q L).subset he
  refine ⟨cur3, ⟨p1, .inr ⟨h', b', ?_, p2, p3⟩, by rw [← p3]; exact p2.srt, p5, by rw [hcur3]; simp [h1.sz], ?_, ?_, ?_, ?_, ?_, ?_, OwnM.kps h1.own p4 (h1.own.ne h1.hS), fun e he => h1.le e (hsub e he), fun e he => h1.ok e (hsub e he), h1.hBM, h1.hBS, Nat.le_trans h1.hB p4.bel.size⟩, gj⟩
  · rw [hcur3, Array.getElem?_setIfInBounds, if_pos rfl, if_pos (by rw [Array.size_setIfInBounds, h1.sz]; omega)]
  · rw [hcur3, Array.getElem?_setIfInBounds, if_neg (by omega), Array.getElem?_setIfInBounds, if_pos rfl, if_pos (by rw [h1.sz]; omega)]
    congr 2; omega
  · rw [gj 2 (by omega) (by omega)]; exact h1.c2
  · rw [gj 3 (by omega) (by omega)]; exact h1.c3
  · rw [gj 4 (by omega) (by omega)]; exact h1.c4
  · rw [gj 8 (by omega) (by omega)]; exact h1.c8
  · rw [gj 10 (by omega) (by omega)]; exact h1.c10

/-- A later world that has kept all the Sessions hold. -/
theorem Ses.below {B S M m : Nat} {w w2 : World} {σ : Sto} {L : List Ent} {D : DataW Unit} {u o : Int} {cur : Array Value} (h : Ses B S M w σ L m D u o cur) (hb : Below w.heap.size w w2) : Ses B S M w2 σ L m D u o cur :=
  ⟨h.inv.below hb (Nat.le_refl _), h.st, h.srt, by rw [hb.block S (heap_lt h.hS)]; exact h.hS, h.sz, h.c1, h.c2, h.c3, h.c4, h.c8, h.c10, OwnM.keep h.own (fun o ho => by rw [hb.block M (heap_lt ho)]; exact ho), h.le, h.ok, h.hBM, h.hBS, Nat.le_trans h.hB hb.size⟩

/-- The row of sessions is kept. -/
theorem row_kpm {B S M n : Nat} {w w' : World} {v : Value} {xs : List Value} {cur : Array Value} {m : Nat} {D : DataW Unit} (h : w.ownsRow B 47 3 v n xs) (k : KpM B S M w w') (hS : w.heap[S]? = some (.cells cur 36 (0, 0))) (hM : OwnM w M m D) : w'.ownsRow B 47 3 v n xs := by
  refine ownsRow_same h (fun g hg => ?_)
  obtain ⟨c, hc⟩ := ownsRow_heap h hg
  obtain ⟨es, clock, hm, -⟩ := hM
  rw [hc]
  exact k.oth g _ (fun e => by subst e; rw [hS] at hc; cases hc) (fun e => by subst e; rw [hm] at hc; cases hc) hc (fun _ _ _ e => by cases e; decide)

theorem set11 (cur0 : Array Value) (h : cur0.size = 11) (v0 v1 v2 v3 v4 v5 v6 v7 v8 v9 v10 : Value) :
    (((((((((((cur0.setIfInBounds 0 v0).setIfInBounds 1 v1).setIfInBounds 2 v2).setIfInBounds 3 v3).setIfInBounds 4 v4).setIfInBounds 5 v5).setIfInBounds 6 v6).setIfInBounds 7 v7).setIfInBounds 8 v8).setIfInBounds 9 v9).setIfInBounds 10 v10) = #[v0, v1, v2, v3, v4, v5, v6, v7, v8, v9, v10] := by
  obtain ⟨l⟩ := cur0
  match l, h with
  | [x0, x1, x2, x3, x4, x5, x6, x7, x8, x9, x10], _ => simp only [List.setIfInBounds_toArray, List.set_cons_succ, List.set_cons_zero]

/-- Restore's state when k sessions have come. -/
def Rs (B S M : Nat) (w : World) (v : Value) (n : Nat) (l : List (Int × Int)) (k : Nat) (wr : World) : Prop :=
  ∃ σ L m D cur, Ses B S M wr σ L m D k 0 cur ∧ m ≤ k ∧ Rel D L (l.map Prod.fst) k ∧ Below B w wr ∧ wr.ownsRow B 47 3 v n (sesCells l) ∧ cur[5]? = some (.map none) ∧ cur[7]? = some (.int .u64 0) ∧ cur[9]? = some (.int .u64 0)

set_option maxHeartbeats 6400000 in
set_option maxRecDepth 100000 in
theorem restore_any (B S n cap : Nat) (a : Option Addr) (l : List (Int × Int)) (cur0 : Array Value) (w : World) (hS : w.heap[S]? = some (.cells cur0 36 (0, 0))) (hsz : cur0.size = 11) (hBS : B ≤ S) (hB : B ≤ w.heap.size) (hrow : w.ownsRow B 47 3 (.slice a n cap) n (sesCells l)) (hl : l.length = n) (hn : n ≤ 4096) (hwf : ∀ p ∈ l, (Lit.int .u64 p.1).wf = true) :
    Calls Try.prog 9 #[.pointer (some ⟨S, 0, none⟩), .slice a n cap] w fun e w' => e = .returned (.tuple #[]) ∧ ∃ M σ L m D cur, Ses B S M w' σ L m D n L.length cur ∧ L.length = dcTo (l.map Prod.fst) n ∧ m ≤ n ∧ cur[5]? = some (.map none) ∧ cur[7]? = some (.int .u64 0) ∧ cur[9]? = some (.int .u64 0) ∧ Below B w w' ∧ w'.ownsRow B 47 3 (.slice a n cap) n (sesCells l) := by
  have hmm := run_makeMap_hint n w
  have ltS := heap_lt hS
  have hS1 : (w.alloc (.map #[] 0)).heap[S]? = some (.cells cur0 36 (0, 0)) := by rw [Below.heap_alloc w _ S ltS]; exact hS
  have HR : Hid (w.ownsRow B 47 3 (.slice a n cap) n (sesCells l) ∧ l.length = n ∧ (∀ p ∈ l, (Lit.int .u64 p.1).wf = true) ∧ cur0.size = 11) := ⟨hrow, hl, hwf, hsz⟩
  obtain ⟨M, hM⟩ : ∃ M, M = w.heap.size := ⟨_, rfl⟩
  have hMS : M ≠ S := by omega
  have HM0 : Hid (OwnM (w.alloc (.map #[] 0)) M 0 (.map []) ∧ Below B w (w.alloc (.map #[] 0)) ∧ (w.alloc (.map #[] 0)).heap[S]? = some (.cells cur0 36 (0, 0)) ∧ (∀ x, x < w.heap.size → (w.alloc (.map #[] 0)).heap[x]? = w.heap[x]?) ∧ B ≤ M) := ⟨by rw [hM]; exact World.ownsMap_made w _ _ _, (Below.refl B w).alloc hB _, hS1, fun x hx => Below.heap_alloc w _ x hx, by omega⟩
  rw [← hM] at hmm
  generalize w.alloc (.map #[] 0) = W0 at hmm hS1 HM0
  have cs : ∀ j, j < 11 → ∃ v, W0.cell? ⟨S, j, none⟩ = some v := fun j hj => ⟨cur0[j]'(by omega), by rw [cell_of_row _ S j _ 36 (0, 0) hS1]; simp [hsz, hj]⟩
  obtain ⟨d0, e0⟩ := cs 0 (by omega)
  obtain ⟨d1, e1⟩ := cs 1 (by omega)
  obtain ⟨d2, e2⟩ := cs 2 (by omega)
  obtain ⟨d3, e3⟩ := cs 3 (by omega)
  obtain ⟨d4, e4⟩ := cs 4 (by omega)
  obtain ⟨d5, e5⟩ := cs 5 (by omega)
  obtain ⟨d6, e6⟩ := cs 6 (by omega)
  obtain ⟨d7, e7⟩ := cs 7 (by omega)
  obtain ⟨d8, e8⟩ := cs 8 (by omega)
  obtain ⟨d9, e9⟩ := cs 9 (by omega)
  obtain ⟨d10, e10⟩ := cs 10 (by omega)
  have fz : ∀ j, W0.frozen? ⟨S, j, none⟩ = false := fun j => by simp [World.frozen?, hS1]
  have f0 := fz 0
  have f1 := fz 1
  have f2 := fz 2
  have f3 := fz 3
  have f4 := fz 4
  have f5 := fz 5
  have f6 := fz 6
  have f7 := fz 7
  have f8 := fz 8
  have f9 := fz 9
  have f10 := fz 10
  clear cs fz
  clear hrow hl hwf hS hS1 hsz
  have HMe : Hid (M = w.heap.size) := hM
  clear hM
  obtain ⟨W1, hW1⟩ : ∃ W1, W1 = ((((((((((W0.setCell ⟨S, 0, none⟩ (.pointer none)).setCell ⟨S, 1, none⟩ (.int .i64 0)).setCell ⟨S, 2, none⟩ (.int .u64 0)).setCell ⟨S, 3, none⟩ (.map (some M))).setCell ⟨S, 4, none⟩ (.int .i64 0)).setCell ⟨S, 5, none⟩ (.map none)).setCell ⟨S, 6, none⟩ (.int .i64 0)).setCell ⟨S, 7, none⟩ (.int .u64 0)).setCell ⟨S, 8, none⟩ (.int .u64 0)).setCell ⟨S, 9, none⟩ (.int .u64 0)).setCell ⟨S, 10, none⟩ (.int .i64 0) := ⟨_, rfl⟩
  have H1 : Hid (Rs B S M w (.slice a n cap) n l 0 W1) := by
    obtain ⟨t1, t2, t3, t4, t5⟩ := HM0.out
    have hS2 : W1.heap[S]? = some (.cells #[.pointer none, .int .i64 0, .int .u64 0, .map (some M), .int .i64 0, .map none, .int .i64 0, .int .u64 0, .int .u64 0, .int .u64 0, .int .i64 0] 36 (0, 0)) := by
      rw [hW1, (heap_setCell_at (j := 10) _ (heap_setCell_at (j := 9) _ (heap_setCell_at (j := 8) _ (heap_setCell_at (j := 7) _ (heap_setCell_at (j := 6) _ (heap_setCell_at (j := 5) _ (heap_setCell_at (j := 4) _ (heap_setCell_at (j := 3) _ (heap_setCell_at (j := 2) _ (heap_setCell_at (j := 1) _ (heap_setCell_at (j := 0) _ HM0.out.2.2.1))))))))))), set11 cur0 HR.out.2.2.2]
    have hoth : ∀ x, x ≠ S → W1.heap[x]? = W0.heap[x]? := fun x hx => by
      rw [hW1]; simp only [heap_setCell_not _ hx]
    have hbel : Below B w W1 := by
      rw [hW1]
      exact (((((((((((t2.setCell (p := ⟨S, 0, none⟩) hBS _).setCell (p := ⟨S, 1, none⟩) hBS _).setCell (p := ⟨S, 2, none⟩) hBS _).setCell (p := ⟨S, 3, none⟩) hBS _).setCell (p := ⟨S, 4, none⟩) hBS _).setCell (p := ⟨S, 5, none⟩) hBS _).setCell (p := ⟨S, 6, none⟩) hBS _).setCell (p := ⟨S, 7, none⟩) hBS _).setCell (p := ⟨S, 8, none⟩) hBS _).setCell (p := ⟨S, 9, none⟩) hBS _).setCell (p := ⟨S, 10, none⟩) hBS _)
    refine ⟨fun _ => none, [], 0, .map [], _, ⟨⟨fun b nd h => (by cases h), fun b b' nd nd' g h => (by cases h), fun b b' nd nd' g h => (by cases h)⟩, .inl ⟨rfl, rfl⟩, List.Pairwise.nil, hS2, rfl, rfl, rfl, rfl, ⟨0, rfl, by omega, by omega⟩, rfl, rfl, OwnM.keep t1 (fun o ho => by rw [hoth M hMS]; exact ho), fun e he => (by simp at he), fun e he => (by simp at he), t5, hBS, Nat.le_trans hB hbel.size⟩, Nat.le_refl _, Rel.start _, hbel, ownsRow_same HR.out.1 (fun g hg => ?_), rfl, rfl, rfl⟩
    obtain ⟨c, hc⟩ := ownsRow_heap HR.out.1 hg
    rw [hoth g (fun e => by subst e; have := t4 g (heap_lt hc); rw [t3, hc] at this; cases this), t4 g (heap_lt hc)]
  clear HM0
  go_enter Try.func9, Try.ntmps9
  go_upto_region 1 with fail
  rw [← hW1]
  clear hW1 e0 e1 e2 e3 e4 e5 e6 e7 e8 e9 e10 f0 f1 f2 f3 f4 f5 f6 f7 f8 f9 f10 hmm
  clear d0 d1 d2 d3 d4 d5 d6 d7 d8 d9 d10
  go_wp2_with fail
  go_loopw [5, 6, 7, 17] (fun s5 s6 s7 s17 wr => ∃ k : Nat, k ≤ n ∧ s17 = .int .i64 k ∧ Hid (Rs B S M w (.slice a n cap) n l k wr)) (fun _ _ _ s _ => n - (intOf s).toNat)
  case atStart => exact ⟨0, Nat.zero_le _, rfl, H1.out⟩
  case round =>
    obtain ⟨k, hk, rfl, hK⟩ := hrel
    by_cases hlt : k < n
    · obtain ⟨σ, L, m, D, cur, hs, hm, hrel, hbel, hrow, h5, h7, h9⟩ := hK.out
      obtain ⟨g, cp, hv⟩ := ownsRow_some hrow (by omega)
      cases hv
      have hkl : k < l.length := by rw [HR.out.2.1]; exact hlt
      obtain ⟨c, s, hcs⟩ : ∃ c s, l[k] = (c, s) := ⟨_, _, rfl⟩
      have x0 : wr.cell? ⟨g, k * 3, none⟩ = some (.int .u64 c) := by
        have h := sesCells_get l k 0 hkl (by omega)
        rw [hrow.cellAt (k * 3) (by omega)]; rw [Nat.add_zero] at h; rw [h, hcs]; rfl
      have x1 : wr.cell? ⟨g, k * 3 + 1, none⟩ = some (.int .u64 s) := by
        rw [hrow.cellAt (k * 3 + 1) (by omega), sesCells_get l k 1 hkl (by omega), hcs]; rfl
      have x2 : wr.cell? ⟨g, k * 3 + 2, none⟩ = some .nilIface := by
        rw [hrow.cellAt (k * 3 + 2) (by omega), sesCells_get l k 2 hkl (by omega), hcs]; rfl
      have hcw : (Lit.int .u64 c).wf = true := by have := HR.out.2.2.1 l[k] (List.getElem_mem hkl); rw [hcs] at this; exact this
      have hxk : (l.map Prod.fst).getD k 0 = c := by simp [List.getD_eq_getElem?_getD, hkl, hcs]
      have hkx : k < (l.map Prod.fst).length := by simpa using hkl
      have hl5 : L.length ≤ 4990 := by have := dcTo_le (l.map Prod.fst) k; have := hrel.len; omega
      have hkI : (k : Int) < n := by omega
      have HALL : Hid (Ses B S M wr σ L m D k 0 cur ∧ m ≤ k ∧ Rel D L (l.map Prod.fst) k ∧ Below B w wr ∧ wr.ownsRow B 47 3 (.slice (some ⟨g, 0, none⟩) n cap) n (sesCells l) ∧ cur[5]? = some (.map none) ∧ cur[7]? = some (.int .u64 0) ∧ cur[9]? = some (.int .u64 0) ∧ (Lit.int .u64 c).wf = true ∧ (l.map Prod.fst).getD k 0 = c ∧ k < (l.map Prod.fst).length ∧ L.length ≤ 4990) := ⟨hs, hm, hrel, hbel, hrow, h5, h7, h9, hcw, hxk, hkx, hl5⟩
      clear hK hs hm hrel hbel hrow h5 h7 h9 hcw hxk hkx hl5 hcs hkl H1
      go_upto_region 4 with fail
      obtain ⟨hs, hm, hrel, hbel, hrow, h5, h7, h9, hcw, hxk, hkx, hl5⟩ := HALL.out
      obtain ⟨v, hv⟩ : ∃ v, v = wr.heap.size := ⟨_, rfl⟩
      have hvS : v ≠ S := by have := heap_lt hs.hS; omega
      have hvM : v ≠ M := by have := hs.own.lt; omega
      have hb2 : Below wr.heap.size wr (wr.alloc (.cells #[.int .u64 c, .int .u64 s, .nilIface] 47)) := (Below.refl _ wr).alloc (Nat.le_refl _) _
      have hV2 : (wr.alloc (.cells #[.int .u64 c, .int .u64 s, .nilIface] 47)).heap[v]? = some (.cells #[.int .u64 c, .int .u64 s, .nilIface] 47 (0, 0)) := by rw [hv]; exact alloc_new0 wr _
      rw [← hv]
      generalize wr.alloc (.cells #[.int .u64 c, .int .u64 s, .nilIface] 47) = W2 at hb2 hV2 ⊢
      have hs2 := hs.below hb2
      have hbel2 : Below B w W2 := hbel.trans (hb2.mono hs.hB)
      have hrow2 : W2.ownsRow B 47 3 (.slice (some ⟨g, 0, none⟩) n cap) n (sesCells l) := ownsRow_same hrow (fun x hx => hb2.block x (by obtain ⟨c', hc'⟩ := ownsRow_heap hrow hx; exact heap_lt hc'))
      have y3 : W2.cell? ⟨S, 3, none⟩ = some (.map (some M)) := by rw [cell_of_row W2 S 3 _ 36 (0, 0) hs2.hS]; exact hs2.c3
      have yv : W2.cell? ⟨v, 0, none⟩ = some (.int .u64 c) := by rw [cell_of_row W2 v 0 _ 47 (0, 0) hV2]; rfl
      obtain ⟨vv, ps, hrun, hvv⟩ := hs2.own.drew.look_ok keyed23 Try.underlying32 (z := .int .u64 0) (by kernel_rfl) (plainElem_int Try.underlying23 (by decide)) (keyOf_int_mk Try.underlying23 hcw)
      obtain ⟨q, rfl, hq, hqw⟩ := plainElem_int_inv Try.underlying23 hvv
      have hat : D.atKey (.int .u64 c) (.lit (.int .u64 0)) = .lit (.int .u64 q) := congrArg Prod.fst hq
      rw [hrel.has c] at hrun
      obtain ⟨ok, hok⟩ : ∃ ok, ok = hasX ((l.map Prod.fst).take k) c := ⟨_, rfl⟩
      rw [← hok] at hrun
      have HRUN := (show Hid _ from hrun)
      have H2 : Hid (Ses B S M W2 σ L m D k 0 cur ∧ Below B w W2 ∧ W2.ownsRow B 47 3 (.slice (some ⟨g, 0, none⟩) n cap) n (sesCells l) ∧ W2.heap[v]? = some (.cells #[.int .u64 c, .int .u64 s, .nilIface] 47 (0, 0)) ∧ D.atKey (.int .u64 c) (.lit (.int .u64 0)) = .lit (.int .u64 q) ∧ ok = hasX ((l.map Prod.fst).take k) c) := ⟨hs2, hbel2, hrow2, hV2, hat, hok⟩
      clear hs hm hrel hbel hrow h5 h7 h9 hcw hxk hkx hl5 hv hb2 hV2 hs2 hbel2 hrow2 hrun hvv hq hqw hat hok x0 x1 x2
      apply wp_region_one
      case h =>
        have hrun2 := HRUN.out
        go_region_law (fail)
        all_goals exact ⟨rfl, rfl⟩
      case k =>
        go_upto_if 32 with fail
        go_cut [] from 18 to 41 (fun wx => Hid (∃ σ1 L1 cur1, Ses B S M wx σ1 L1 m D k 0 cur1 ∧ Rel (D.put (.int .u64 c) (.lit (.int .u64 (k + 1)))) (L1 ++ [⟨k + 1, c, s⟩]) (l.map Prod.fst) (k + 1) ∧ wx.heap[v]? = some (.cells #[.int .u64 c, .int .u64 s, .nilIface] 47 (0, 0)) ∧ Below B w wx ∧ wx.ownsRow B 47 3 (.slice (some ⟨g, 0, none⟩) n cap) n (sesCells l) ∧ L1.length ≤ 4990 ∧ cur1[5]? = some (.map none) ∧ cur1[7]? = some (.int .u64 0) ∧ cur1[9]? = some (.int .u64 0)))
        case first =>
          cases ok with
          | true =>
            obtain ⟨hs2, hbel2, hrow2, hV2, hat, hok⟩ := H2.out
            obtain ⟨hs, hm, hrel, hbel, hrow, h5, h7, h9, hcw, hxk, hkx, hl5⟩ := HALL.out
            obtain ⟨e0, he0, hc0, hk0⟩ := hrel.found hok.symm hat
            obtain ⟨h, b, hr0, hTr, hct⟩ : ∃ h b, cur[0]? = some (.pointer (some ⟨b, 0, none⟩)) ∧ Tree σ h b ∧ cont σ h b = L := by
              rcases hs2.st with ⟨_, e⟩ | e
              · rw [e] at he0; simp at he0
              · exact e
            have hhas : hasK q L := ⟨e0, he0, hk0⟩
            have hde := delete_any B S σ h b q L.length cur W2.drew hs2.inv.drew hs2.hB hTr (by rw [hct]; exact hhas) (by rw [hct]; omega) hs2.hS hs2.hBS hr0 hs2.c1 hs2.c2 (by omega) (by omega)
            have HDE := (show Hid _ from hde)
            have HX : Hid (hasK q L ∧ cont σ h b = L) := ⟨hhas, hct⟩
            clear hs2 hbel2 hrow2 hV2 hat hok hs hm hrel hbel hrow h5 h7 h9 hcw hxk hkx hl5 he0 hc0 hk0 hr0 hTr hct hhas hde
            go_wp2_with fail
            refine Calls.mono HDE.out ?_
            rintro e w3 ⟨vv, σ', h', b', rfl, p1, p2, p3, p4, p5⟩
            have HP : Hid (Inv B w3 σ' ∧ Tree σ' h' b' ∧ cont σ' h' b' = Qxb6613550a.del q (cont σ h b) ∧ KpS B S W2.drew w3 ∧ w3.heap[S]? = some (.cells ((cur.setIfInBounds 1 (.int .i64 (L.length - 1))).setIfInBounds 0 (.pointer (some ⟨b', 0, none⟩))) 36 (0, 0))) := ⟨p1, p2, p3, p4, p5⟩
            clear p1 p2 p3 p4 p5 HDE
            go_wp2_with fail
            go_meet
            obtain ⟨p1, p2, p3, p4, p5⟩ := HP.out
            obtain ⟨hs2, hbel2, hrow2, hV2, hat, hok⟩ := H2.out
            obtain ⟨hs, hm, hrel, hbel, hrow, h5, h7, h9, hcw, hxk, hkx, hl5⟩ := HALL.out
            rw [HX.out.2] at p3
            obtain ⟨cur1, hs3, gj⟩ := Ses.del (hs2.below (show Below W2.heap.size W2 W2.drew from ⟨rfl, rfl, rfl, Nat.le_refl _, fun _ _ => rfl⟩)) p1 p2 p3 p4 p5 HX.out.1
            have hll := del_len hs2.srt HX.out.1
            refine ⟨σ', _, cur1, hs3, hrel.old hs2.srt hkx hxk hok.symm hat _ s, p4.oth v _ hvS hV2 (fun _ _ _ e => by cases e; decide), hbel2.trans ((Below.refl B W2).drew.trans p4.bel), row_kpm (M := M) hrow2 (KpM.of ⟨((Below.refl B W2).drew).trans p4.bel, p4.oth⟩) hs2.hS hs2.own, by omega, ?_, ?_, ?_⟩
            · rw [gj 5 (by omega) (by omega)]; exact h5
            · rw [gj 7 (by omega) (by omega)]; exact h7
            · rw [gj 9 (by omega) (by omega)]; exact h9
          | false =>
            go_wp2_with fail
            go_meet
            obtain ⟨hs2, hbel2, hrow2, hV2, hat, hok⟩ := H2.out
            obtain ⟨hs, hm, hrel, hbel, hrow, h5, h7, h9, hcw, hxk, hkx, hl5⟩ := HALL.out
            exact ⟨σ, L, cur, hs2.below ⟨rfl, rfl, rfl, Nat.le_refl _, fun _ _ => rfl⟩, hrel.new hkx hxk hok.symm _ s, hV2, hbel2.drew, hrow2, hl5, h5, h7, h9⟩
        case rest =>
          obtain ⟨σ1, L1, cur1, hs1, hre, hV, hbe, hro, hl1, g5, g7, g9⟩ := hcut.out
          have v0 : wc.cell? ⟨v, 0, none⟩ = some (.int .u64 c) := by rw [cell_of_row wc v 0 _ 47 (0, 0) hV]; rfl
          have v1 : wc.cell? ⟨v, 1, none⟩ = some (.int .u64 s) := by rw [cell_of_row wc v 1 _ 47 (0, 0) hV]; rfl
          have v2 : wc.cell? ⟨v, 2, none⟩ = some .nilIface := by rw [cell_of_row wc v 2 _ 47 (0, 0) hV]; rfl
          have hus := use_any B S M m σ1 L1 D k 0 c s cur1 wc hs1 hl1 (by have := HALL.out.2.1; omega) (by omega) (by omega) HALL.out.2.2.2.2.2.2.2.2.1
          have HUS := (show Hid _ from hus)
          have H3 : Hid (Ses B S M wc σ1 L1 m D k 0 cur1 ∧ Rel (D.put (.int .u64 c) (.lit (.int .u64 (k + 1)))) (L1 ++ [⟨k + 1, c, s⟩]) (l.map Prod.fst) (k + 1) ∧ Below B w wc ∧ wc.ownsRow B 47 3 (.slice (some ⟨g, 0, none⟩) n cap) n (sesCells l) ∧ cur1[5]? = some (.map none) ∧ cur1[7]? = some (.int .u64 0) ∧ cur1[9]? = some (.int .u64 0)) := ⟨hs1, hre, hbe, hro, g5, g7, g9⟩
          clear hcut hs1 hre hV hbe hro hl1 g5 g7 g9 hus H2 HRUN
          go_wp2_with fail
          refine Calls.mono HUS.out ?_
          rintro e w4 ⟨rfl, σ4, cur4, q1, q2, q3⟩
          have HN : Hid (Rs B S M w (.slice (some ⟨g, 0, none⟩) n cap) n l (k + 1) w4) := by
            obtain ⟨hs1, hre, hbe, hro, g5, g7, g9⟩ := H3.out
            refine ⟨σ4, _, m + 1, _, cur4, q1, by have := HALL.out.2.1; omega, hre, hbe.trans q2.bel, row_kpm hro q2 hs1.hS hs1.own, ?_, ?_, ?_⟩
            · rw [q3 5 (by omega)]; exact g5
            · rw [q3 7 (by omega)]; exact g7
            · rw [q3 9 (by omega)]; exact g9
          clear q1 q2 q3 HUS H3 v0 v1 v2
          go_wp2_with fail
          go_roundw
          case rel => exact ⟨k + 1, by omega, by go_num, HN.out⟩
          case measure => simp [intOf]; omega
    · obtain rfl : k = n := by omega
      obtain ⟨σ, L, m, D, cur, hs, hm, hrel, hbel, hrow, h5, h7, h9⟩ := hK.out
      have s1 : wr.cell? ⟨S, 1, none⟩ = some (.int .i64 L.length) := by rw [cell_of_row wr S 1 _ 36 (0, 0) hs.hS]; exact hs.c1
      have s10 : wr.cell? ⟨S, 10, none⟩ = some (.int .i64 0) := by rw [cell_of_row wr S 10 _ 36 (0, 0) hs.hS]; exact hs.c10
      have f10 : wr.frozen? ⟨S, 10, none⟩ = false := by simp [World.frozen?, hs.hS]
      have hln := mapLen_any S L.length wr s1
      have HLN := (show Hid _ from hln)
      have HALL : Hid (Ses B S M wr σ L m D k 0 cur ∧ m ≤ k ∧ Rel D L (l.map Prod.fst) k ∧ Below B w wr ∧ wr.ownsRow B 47 3 (.slice a k cap) k (sesCells l) ∧ cur[5]? = some (.map none) ∧ cur[7]? = some (.int .u64 0) ∧ cur[9]? = some (.int .u64 0)) := ⟨hs, hm, hrel, hbel, hrow, h5, h7, h9⟩
      clear hK hs hm hrel hbel hrow h5 h7 h9 hln H1
      go_wp2_with fail
      refine Calls.mono HLN.out ?_
      rintro e w' ⟨rfl, hw'⟩
      subst w'
      clear HLN
      go_wp2_with fail
      go_end0
      obtain ⟨hs, hm, hrel, hbel, hrow, h5, h7, h9⟩ := HALL.out
      have gj : ∀ j, j ≠ 10 → (cur.setIfInBounds 10 (.int .i64 L.length))[j]? = cur[j]? := fun j hj => by rw [Array.getElem?_setIfInBounds, if_neg (by omega)]
      have hK : KpS B S wr (wr.setCell ⟨S, 10, none⟩ (.int .i64 L.length)) := KpS.setCell _ hBS
      refine ⟨rfl, M, σ, L, m, D, cur.setIfInBounds 10 (.int .i64 L.length), ⟨hs.inv.setOth _ hs.hS (by decide), hs.st.congr (gj 0 (by omega)), hs.srt, heap_setCell_at _ hs.hS, by simp [hs.sz], ?_, ?_, ?_, ?_, ?_, ?_, hs.own.setCell (a := ⟨S, 10, none⟩) hMS _, hs.le, hs.ok, hs.hBM, hs.hBS, by rw [size_setCell]; exact hs.hB⟩, hrel.len, hm, ?_, ?_, ?_, hbel.trans hK.bel, row_kpm (M := M) hrow (KpM.of hK) hs.hS hs.own⟩
      · rw [gj 1 (by omega)]; exact hs.c1
      · rw [gj 2 (by omega)]; exact hs.c2
      · rw [gj 3 (by omega)]; exact hs.c3
      · rw [gj 4 (by omega)]; exact hs.c4
      · rw [gj 8 (by omega)]; exact hs.c8
      · rw [Array.getElem?_setIfInBounds, if_pos rfl, if_pos (by rw [hs.sz]; omega)]
      · rw [gj 5 (by omega)]; exact h5
      · rw [gj 7 (by omega)]; exact h7
      · rw [gj 9 (by omega)]; exact h9
end Go.Proofs.Qxb6613550a
