/-
  Sessions.sweep: the earliest expired sessions go.
-/
import Derived.Test.Qxb6613550aUse
import Derived.Test.Qxb6613550aFirst
namespace Go.Proofs.Qxb6613550a
open Go.RowKit Go.Maps
set_option linter.unusedVariables false

theorem step_delete_by {P : Program} {ops : Array Oper} {o : Oper} {a : Act} {w : World} {K : Act → World → Prop} {Q : Exit → Act → World → Prop} {E : Prop}
    (hg : o.guard = none) (s x : Operand) (t tn : TypeId) (hop : o.op = Op.call { callee := Callee.builtin Builtin.delete, args := #[s, x], argTypes := #[t, tn] })
    (vs vx : Value) (hs : a.eval s = vs) (hx : a.eval x = vx) {v' : Value} {w' : World} (hr : (Builtin.delete_ #[t, tn] o.type #[vs, vx]).run P w = .ok v' w') (hK : K (a.put o.dst v') w') :
    if Region.wanted o (yielded ops a.tmps) = true then Oper.wp P o a w K Q else E := by
  have hw : Region.wanted o (yielded ops a.tmps) = true := by simp [Region.wanted, hg]
  rw [if_pos hw]
  unfold Oper.wp
  simp [execOp, hop, resolve, invoke, builtin, hs, hx, hr, Result.andThen]
  exact hK

/-- What sweep keeps of the Sessions. -/
def Sw (B S M : Nat) (w0 : World) (u o : Int) (cur0 : Array Value) (wr : World) (len : Nat) : Prop :=
  ∃ σ L m D cur, Ses B S M wr σ L m D u o cur ∧ L.length = len ∧ m ≤ 10000 ∧ KpM B S M w0 wr ∧ (∀ j, j = 4 ∨ j = 5 ∨ j = 6 ∨ j = 7 ∨ j = 9 → cur[j]? = cur0[j]?)

theorem del_head {y : Ent} {Q : List Ent} (h : Srt (y :: Q)) : del y.k (y :: Q) = Q := by
  have h1 : ¬ hasK y.k Q := by
    rintro ⟨x, hx, hk⟩
    have := (List.pairwise_cons.1 h).1 x hx
    omega
  have := del_none h1
  unfold del at this ⊢
  rw [List.filter_cons_of_neg (by simp)]; exact this

set_option maxHeartbeats 6400000 in
set_option maxRecDepth 100000 in
theorem sweep_any (B S M m : Nat) (σ : Sto) (L : List Ent) (D : DataW Unit) (u o : Int) (cur : Array Value) (w : World) (hs : Ses B S M w σ L m D u o cur) (hL : L.length ≤ 4990) (hm : m ≤ 10000) (ho0 : 0 ≤ o) (ho1 : o ≤ L.length) :
    Calls Try.prog 34 #[.pointer (some ⟨S, 0, none⟩)] w fun e w' => e = .returned (.tuple #[]) ∧ ∃ len : Nat, o ≤ len ∧ len ≤ L.length ∧ Sw B S M w u o cur w' len := by
  have s1 : w.cell? ⟨S, 1, none⟩ = some (.int .i64 L.length) := by rw [cell_of_row w S 1 _ 36 (0, 0) hs.hS]; exact hs.c1
  have s10 : w.cell? ⟨S, 10, none⟩ = some (.int .i64 o) := by rw [cell_of_row w S 10 _ 36 (0, 0) hs.hS]; exact hs.c10
  have hBw := hs.hB
  obtain ⟨n, hn⟩ : ∃ n, n = L.length := ⟨_, rfl⟩
  rw [← hn] at s1 hL ho1 ⊢
  have HS0 : Hid (Sw B S M w u o cur w n) := ⟨σ, L, m, D, cur, hs, hn.symm, hm, KpM.refl _ _ _ _, fun _ _ => rfl⟩
  have hlen := mapLen_any S n w.drew s1
  have HLEN := (show Hid _ from hlen)
  have hd : IntKind.i64.wrap ((n : Int) - o) = n - o := IntWalk.i64_in _ (by omega)
  clear hs hn hlen
  go_enter Try.func34, Try.ntmps34
  go_upto_region 0 with fail
  go_cut [14, 15] from 5 to 13 (fun s14 s15 wx => ∃ q : Nat, s14 = .int .i64 q ∧ s15 = .int .i64 0 ∧ wx = w.drew ∧ q ≤ 64 ∧ (q : Int) ≤ n - o)
  case first =>
    go_region_with (go_at_call 18; refine Calls.mono HLEN.out ?_; rintro e w' ⟨rfl, hw'⟩; subst w')
    all_goals
      obtain ⟨q, hq, hq1, hq2⟩ : ∃ q : Nat, (if (n : Int) - o < 64 then (n : Int) - o else 64) = (q : Int) ∧ q ≤ 64 ∧ (q : Int) ≤ n - o := by
        by_cases h : (n : Int) - o < 64
        · exact ⟨((n : Int) - o).toNat, by rw [if_pos h]; omega, by omega, by omega⟩
        · exact ⟨64, by rw [if_neg h]; rfl, by omega, by omega⟩
      rw [hq]
      go_wp2_with fail
      go_meet
      exact ⟨q, rfl, rfl, rfl, hq1, hq2⟩
  case rest =>
    obtain ⟨q, rfl, rfl, hwc, hq1, hq2⟩ := hcut
    subst hwc
    go_wp2_with fail
    go_loopw [2, 3, 4, 15] (fun s2 s3 s4 s15 wr => ∃ t : Nat, t ≤ q ∧ s15 = .int .i64 t ∧ Hid (Sw B S M w u o cur wr (n - t))) (fun _ _ _ s _ => q - (intOf s).toNat)
    case atStart =>
      refine ⟨0, Nat.zero_le _, rfl, ?_⟩
      obtain ⟨σ1, L1, m1, D1, cur1, h1, h2, h3, h4, h5⟩ := HS0.out
      exact ⟨σ1, L1, m1, D1, cur1, ⟨h1.inv.drew, h1.st, h1.srt, h1.hS, h1.sz, h1.c1, h1.c2, h1.c3, h1.c4, h1.c8, h1.c10, h1.own.drew, h1.le, h1.ok, h1.hBM, h1.hBS, h1.hB⟩, by omega, h3, h4.trans (KpM.of (KpS.of (Kp.drew B w))), h5⟩
    case round =>
      obtain ⟨t, ht, rfl, hT⟩ := hrel
      by_cases htq : t < q
      · obtain ⟨σ1, L1, m1, D1, cur1, h1, h2, h3, h4, h5⟩ := hT.out
        have hpos : 0 < L1.length := by omega
        obtain ⟨h, b, hr0, hTr, hct⟩ : ∃ h b, cur1[0]? = some (.pointer (some ⟨b, 0, none⟩)) ∧ Tree σ1 h b ∧ cont σ1 h b = L1 := by
          rcases h1.st with ⟨_, e⟩ | e
          · rw [e] at hpos; simp at hpos
          · exact e
        have r0 : wr.cell? ⟨S, 0, none⟩ = some (.pointer (some ⟨b, 0, none⟩)) := by rw [cell_of_row wr S 0 _ 36 (0, 0) h1.hS]; exact hr0
        have r1 : wr.cell? ⟨S, 1, none⟩ = some (.int .i64 L1.length) := by rw [cell_of_row wr S 1 _ 36 (0, 0) h1.hS]; exact h1.c1
        have hfi := mapFirst_any B S σ1 h b L1.length wr h1.inv h1.hB hTr (by rw [hct]; intro e; rw [e] at hpos; simp at hpos) r0 r1 (by omega)
        have HFI := (show Hid _ from hfi)
        have HALL : Hid (Ses B S M wr σ1 L1 m1 D1 u o cur1 ∧ L1.length = n - t ∧ m1 ≤ 10000 ∧ KpM B S M w wr ∧ (∀ j, j = 4 ∨ j = 5 ∨ j = 6 ∨ j = 7 ∨ j = 9 → cur1[j]? = cur[j]?) ∧ cur1[0]? = some (.pointer (some ⟨b, 0, none⟩)) ∧ Tree σ1 h b ∧ cont σ1 h b = L1) := ⟨h1, h2, h3, h4, h5, hr0, hTr, hct⟩
        clear hT h1 h2 h3 h4 h5 hr0 hTr hct r0 r1 hfi hpos HS0
        go_wp2_with fail
        refine Calls.mono HFI.out ?_
        rintro e w1 ⟨y, Q, rfl, hyq, hbel⟩
        obtain ⟨yk, yc, ys, hy⟩ : ∃ yk yc ys, y = ⟨yk, yc, ys⟩ := ⟨y.k, y.c, y.s, rfl⟩
        subst hy
        have HW1 : Hid (cont σ1 h b = ⟨yk, yc, ys⟩ :: Q ∧ Below wr.heap.size wr w1) := ⟨hyq, hbel⟩
        clear hyq hbel HFI
        go_upto_region 3 with fail
        obtain ⟨h1, h2, h3, h4, h5, hr0, hTr, hct⟩ := HALL.out
        obtain ⟨hyq, hbel⟩ := HW1.out
        obtain ⟨v, hv⟩ : ∃ v, v = w1.heap.size := ⟨_, rfl⟩
        have hBel2 : Below wr.heap.size wr (w1.alloc (.cells #[.int .u64 yc, .int .u64 ys, .nilIface] 47)) := hbel.alloc hbel.size _
        have hV2 : (w1.alloc (.cells #[.int .u64 yc, .int .u64 ys, .nilIface] 47)).heap[v]? = some (.cells #[.int .u64 yc, .int .u64 ys, .nilIface] 47 (0, 0)) := by rw [hv]; exact alloc_new0 w1 _
        have hvS : v ≠ S := by have := heap_lt h1.hS; have := hbel.size; omega
        rw [← hv]
        generalize w1.alloc (.cells #[.int .u64 yc, .int .u64 ys, .nilIface] 47) = W2 at hBel2 hV2 ⊢
        have hI2 : Inv B W2 σ1 := h1.inv.below hBel2 (Nat.le_refl _)
        have hS2 : W2.heap[S]? = some (.cells cur1 36 (0, 0)) := by rw [hBel2.block S (heap_lt h1.hS)]; exact h1.hS
        have hown2 : OwnM W2 M m1 D1 := OwnM.keep h1.own (fun o ho => by rw [hBel2.block M (heap_lt ho)]; exact ho)
        have hB2 : B ≤ W2.heap.size := Nat.le_trans h1.hB hBel2.size
        have hK2 : KpM B S M w W2 := h4.trans (KpM.of (KpS.of (Kp.of_below hBel2 h1.hB)))
        have hmem : (⟨yk, yc, ys⟩ : Ent) ∈ L1 := by rw [← hct, hyq]; simp
        have hwc := (h1.ok _ hmem).2
        have hde := delete_any B S σ1 h b yk L1.length cur1 W2 hI2 hB2 hTr (by rw [hyq]; exact ⟨_, List.mem_cons_self, rfl⟩) (by rw [hct]; omega) hS2 h1.hBS hr0 h1.c1 h1.c2 (by omega) (by omega)
        have HDE := (show Hid _ from hde)
        have H2 : Hid (KpM B S M w W2 ∧ OwnM W2 M m1 D1 ∧ W2.heap[v]? = some (.cells #[.int .u64 yc, .int .u64 ys, .nilIface] 47 (0, 0)) ∧ (Lit.int .u64 yc).wf = true ∧ L1 = ⟨yk, yc, ys⟩ :: Q) := ⟨hK2, hown2, hV2, hwc, by rw [← hct]; exact hyq⟩
        clear h1 h2 h3 h4 h5 hr0 hTr hct hyq hbel hBel2 hV2 hI2 hS2 hown2 hB2 hK2 hmem hwc hde hv HW1
        go_wp2_with fail
        refine Calls.mono HDE.out ?_
        rintro e w3 ⟨vv, σ', h', b', rfl, p1, p2, p3, p4, p5⟩
        obtain ⟨h1, h2, h3, h4, h5, hr0, hTr, hct⟩ := HALL.out
        obtain ⟨t1, t2, t3, t4, t5⟩ := H2.out
        have hMS : M ≠ S := h1.own.ne h1.hS
        have hV3 : w3.heap[v]? = some (.cells #[.int .u64 yc, .int .u64 ys, .nilIface] 47 (0, 0)) := p4.oth v _ hvS t3 (fun _ _ _ e => by cases e; decide)
        have hown3 : OwnM w3 M m1 D1 := t2.kps p4 hMS
        obtain ⟨w4, hrun, hown4, hturn⟩ := hown3.drew.drop keyed23 Try.underlying32 (keyOf_int_mk Try.underlying23 t4) 0
        obtain ⟨cur3, hcur3⟩ : ∃ cur3, cur3 = (cur1.setIfInBounds 1 (.int .i64 (L1.length - 1))).setIfInBounds 0 (.pointer (some ⟨b', 0, none⟩)) := ⟨_, rfl⟩
        rw [← hcur3] at p5
        have gj : ∀ j, j ≠ 0 → j ≠ 1 → cur3[j]? = cur1[j]? := fun j h0 h1 => by rw [hcur3, Array.getElem?_setIfInBounds, if_neg (by omega), Array.getElem?_setIfInBounds, if_neg (by omega)]
        have x3 : w3.cell? ⟨S, 3, none⟩ = some (.map (some M)) := by rw [cell_of_row w3 S 3 _ 36 (0, 0) p5, gj 3 (by omega) (by omega)]; exact h1.c3
        have xv : w3.cell? ⟨v, 0, none⟩ = some (.int .u64 yc) := by rw [cell_of_row w3 v 0 _ 47 (0, 0) hV3]; rfl
        have hQ : del yk L1 = Q := by rw [t5]; exact del_head (y := ⟨yk, yc, ys⟩) (by rw [← t5]; exact h1.srt)
        have hgr := hturn.grown
        have hS4 : w4.heap[S]? = some (.cells cur3 36 (0, 0)) := by rw [hgr.block S (heap_lt p5) (by simpa using hMS.symm)]; exact p5
        have hB3 : B ≤ w3.heap.size := Nat.le_trans hBw (Nat.le_trans t1.size p4.bel.size)
        have hK4 : KpM B S M w w4 := (t1.trans (KpM.of p4)).trans ⟨((Below.refl B w3).drew).trans ((Below.refl B w3.drew).grown hgr hB3 (fun k e => by cases e; exact h1.hBM)), fun k o k1 k2 k3 _ => by rw [hgr.block k (heap_lt k3) (by simpa using k2)]; exact k3⟩
        have hI4 : Inv B w4 σ' := p1.drew.kp2 (S := S) (M := M) (fun x hx _ hxm => hgr.block x hx (by simpa using hxm)) p5 hown3.drew
        have hl1 : L1.length = Q.length + 1 := by rw [t5]; rfl
        have HN : Hid (Sw B S M w u o cur w4 (n - (t + 1))) := by
          refine ⟨σ', Q, m1, _, cur3, ⟨hI4, .inr ⟨h', b', ?_, p2, by rw [p3, hct]; exact hQ⟩, by have := h1.srt; rw [t5] at this; exact List.Pairwise.of_cons this, hS4, by rw [hcur3]; simp [h1.sz], ?_, ?_, ?_, ?_, ?_, ?_, hown4, ?_, ?_, h1.hBM, h1.hBS, Nat.le_trans hBw hK4.size⟩, by omega, h3, hK4, ?_⟩
          · rw [hcur3, Array.getElem?_setIfInBounds, if_pos rfl, if_pos (by rw [Array.size_setIfInBounds, h1.sz]; omega)]
          · rw [hcur3, Array.getElem?_setIfInBounds, if_neg (by omega), Array.getElem?_setIfInBounds, if_pos rfl, if_pos (by rw [h1.sz]; omega), hl1]
            congr 2; omega
          · rw [gj 2 (by omega) (by omega)]; exact h1.c2
          · rw [gj 3 (by omega) (by omega)]; exact h1.c3
          · rw [gj 4 (by omega) (by omega)]; exact h1.c4
          · rw [gj 8 (by omega) (by omega)]; exact h1.c8
          · rw [gj 10 (by omega) (by omega)]; exact h1.c10
          · intro e he; exact h1.le e (by rw [t5]; exact List.mem_cons_of_mem _ he)
          · intro e he; exact h1.ok e (by rw [t5]; exact List.mem_cons_of_mem _ he)
          · intro j hj
            rw [gj j (by omega) (by omega)]; exact h5 j hj
        have HRUN := (show Hid _ from hrun)
        clear h1 h2 h3 h4 h5 hr0 hTr hct t1 t2 t3 t4 t5 hMS hV3 hown3 hrun hown4 hturn p1 p2 p3 p4 p5 hcur3 gj hQ hgr hS4 hB3 hK4 hI4 hl1 HDE H2 HALL
        go_upto_region 4 with fail
        apply wp_region_one
        case h =>
          go_region_law (refine step_delete_by rfl (.tmp 34) (.tmp 36) 32 23 rfl (.map (some M)) (.int .u64 yc) (by simp [go_sem]) (by simp [go_sem]) HRUN.out ?_)
          all_goals exact ⟨rfl, rfl⟩
        case k =>
          go_wp2_with fail
          go_roundw
          case rel => exact ⟨t + 1, by omega, by go_num, HN.out⟩
          case measure => simp [intOf]; omega
      · obtain rfl : t = q := by omega
        go_wp2_with fail
        go_end0
        exact ⟨rfl, n - t, by omega, by omega, hT.out⟩
end Go.Proofs.Qxb6613550a
