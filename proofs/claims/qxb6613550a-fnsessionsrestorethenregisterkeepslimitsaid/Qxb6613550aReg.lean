/-
  Sessions.Register.
-/
import Derived.Test.Qxb6613550aSweep
import Derived.Test.Qxb6613550aAt
import Derived.Test.Qxb6613550aRest
namespace Go.Proofs.Qxb6613550a
open Go.RowKit Go.Maps
set_option linter.unusedVariables false

theorem eqlSome32' (bm : Nat) (w : World) : (binOp .eql 32 (.map (some bm)) (.map none)).run Try.prog w = .ok (.bool false) w := by kernel_rfl

theorem Ses.setJ {B S M m j : Nat} {w : World} {σ : Sto} {L : List Ent} {D : DataW Unit} {u o : Int} {cur : Array Value} (hs : Ses B S M w σ L m D u o cur) (v : Value) (hj : j = 9 ∨ j = 10) {o' : Int} (ho' : (cur.setIfInBounds j v)[10]? = some (.int .i64 o')) :
    Ses B S M (w.setCell ⟨S, j, none⟩ v) σ L m D u o' (cur.setIfInBounds j v) := by
  have gj : ∀ i, i ≠ j → (cur.setIfInBounds j v)[i]? = cur[i]? := fun i hi => by rw [Array.getElem?_setIfInBounds, if_neg (by omega)]
  have hMS := hs.own.ne hs.hS
  refine ⟨hs.inv.setOth _ hs.hS (by decide), hs.st.congr (gj 0 (by omega)), hs.srt, heap_setCell_at _ hs.hS, by simp [hs.sz], ?_, ?_, ?_, ?_, ?_, ho', hs.own.setCell (a := ⟨S, j, none⟩) hMS _, hs.le, hs.ok, hs.hBM, hs.hBS, by rw [size_setCell]; exact hs.hB⟩
  · rw [gj 1 (by omega)]; exact hs.c1
  · rw [gj 2 (by omega)]; exact hs.c2
  · rw [gj 3 (by omega)]; exact hs.c3
  · rw [gj 4 (by omega)]; exact hs.c4
  · rw [gj 8 (by omega)]; exact hs.c8

/-- What tidy, whatever it does, leaves. -/
def TidyOk (S : Nat) : Prop :=
  ∀ (B M m : Nat) (σ : Sto) (L : List Ent) (D : DataW Unit) (u o : Int) (cur : Array Value) (w : World), Ses B S M w σ L m D u o cur → L.length ≤ 4990 → m ≤ 10000 → 1 ≤ o → o ≤ L.length → cur[5]? = some (.map none) → (∃ fl, cur[9]? = some (.int .u64 fl)) →
    Calls Try.prog 20 #[.pointer (some ⟨S, 0, none⟩)] w fun e w' => e = .returned (.tuple #[]) ∧ ∃ cur', w'.heap[S]? = some (.cells cur' 36 (0, 0)) ∧ cur'.size = 11 ∧ cur'[10]? = some (.int .i64 o) ∧ KpM B S M w w'

/-- Register, up to tidy: what the Sessions hold then. -/
def Pt (B S M : Nat) (w : World) (o' : Int) (wx : World) : Prop :=
  ∃ σ L m D u cur, Ses B S M wx σ L m D u o' cur ∧ L.length ≤ 4990 ∧ m ≤ 10000 ∧ o' ≤ L.length ∧ cur[5]? = some (.map none) ∧ (∃ fl, cur[9]? = some (.int .u64 fl)) ∧ KpM B S M w wx

set_option maxHeartbeats 6400000 in
set_option maxRecDepth 100000 in
theorem register_any (B S M m : Nat) (htidy : TidyOk S) (σ : Sto) (L : List Ent) (D : DataW Unit) (u idx lim : Int) (cur : Array Value) (w : World) (hs : Ses B S M w σ L m D u L.length cur) (hL : L.length ≤ 4096) (hm : m ≤ 5000) (hu0 : 0 ≤ u) (hu1 : u ≤ 5000) (h5 : cur[5]? = some (.map none)) (h9 : cur[9]? = some (.int .u64 0)) (wi : (Lit.int .u64 idx).wf = true) (hl0 : -9223372036854775808 ≤ lim) (hl1 : lim ≤ 9223372036854775807) :
    Calls Try.prog 11 #[.pointer (some ⟨S, 0, none⟩), .int .u64 idx, .int .i64 lim] w fun e w' => e = .returned (.tuple #[]) ∧ ∃ cur', w'.heap[S]? = some (.cells cur' 36 (0, 0)) ∧ cur'.size = 11 ∧ cur'[10]? = some (.int .i64 (min (L.length + 1) (max lim 1))) ∧ KpM B S M w w' := by
  have s3 : w.cell? ⟨S, 3, none⟩ = some (.map (some M)) := by rw [cell_of_row w S 3 _ 36 (0, 0) hs.hS]; exact hs.c3
  have hen := eqlSome32' M w
  have hus := use_any B S M m σ L D u L.length idx 0 cur w hs (by omega) (by omega) hu0 (by omega) wi
  have HUS := (show Hid _ from hus)
  obtain ⟨n, hn⟩ : ∃ n, n = L.length := ⟨_, rfl⟩
  rw [← hn] at HUS hL
  have HT : Hid (TidyOk S) := htidy
  rw [← hn]
  have HLN : Hid (n = L.length ∧ cur[5]? = some (.map none) ∧ cur[9]? = some (.int .u64 0)) := ⟨hn, h5, h9⟩
  clear hs hus h5 h9 hn htidy
  go_enter Try.func11, Try.ntmps11
  go_wp2_with fail
  refine Calls.mono HUS.out ?_
  rintro e w1 ⟨rfl, σ1, cur1, q1, q2, q3⟩
  have g10 : w1.cell? ⟨S, 10, none⟩ = some (.int .i64 n) := by rw [cell_of_row w1 S 10 _ 36 (0, 0) q1.hS]; exact q1.c10
  have f10 : w1.frozen? ⟨S, 10, none⟩ = false := by simp [World.frozen?, q1.hS]
  have hnw : IntKind.i64.wrap ((n : Int) + 1) = n + 1 := IntWalk.i64_in _ (by omega)
  have H1 : Hid (Ses B S M (w1.setCell ⟨S, 10, none⟩ (.int .i64 (n + 1))) σ1 (L ++ [⟨u + 1, idx, 0⟩]) (m + 1) (D.put (.int .u64 idx) (.lit (.int .u64 (u + 1)))) (u + 1) (n + 1) (cur1.setIfInBounds 10 (.int .i64 (n + 1))) ∧ KpM B S M w (w1.setCell ⟨S, 10, none⟩ (.int .i64 (n + 1))) ∧ (cur1.setIfInBounds 10 (.int .i64 (n + 1)))[5]? = some (.map none) ∧ (cur1.setIfInBounds 10 (.int .i64 (n + 1)))[9]? = some (.int .u64 0)) := by
    refine ⟨q1.setJ _ (.inr rfl) (by rw [Array.getElem?_setIfInBounds, if_pos rfl, if_pos (by rw [q1.sz]; omega)]), q2.trans (KpM.of (KpS.setCell _ q1.hBS)), ?_, ?_⟩
    · rw [Array.getElem?_setIfInBounds, if_neg (by omega), q3 5 (by omega)]; exact HLN.out.2.1
    · rw [Array.getElem?_setIfInBounds, if_neg (by omega), q3 9 (by omega)]; exact HLN.out.2.2
  clear q1 q2 q3 HUS s3 hen
  go_upto_region 4 with fail
  generalize w1.setCell ⟨S, 10, none⟩ (.int .i64 (n + 1)) = W2 at H1 ⊢
  clear g10 f10
  generalize cur1.setIfInBounds 10 (.int .i64 (n + 1)) = cur2 at H1
  have a10 : W2.cell? ⟨S, 10, none⟩ = some (.int .i64 (n + 1)) := by rw [cell_of_row W2 S 10 _ 36 (0, 0) H1.out.1.hS]; exact H1.out.1.c10
  go_cut [6] from 7 to 36 (fun s6 wx => s6 = .int .i64 ((n : Int) + 1 - max lim 1) ∧ wx = W2)
  case first =>
    rcases Int.lt_or_le lim 1 with hc | hc
    · have hm1 : max lim 1 = 1 := by omega
      have hw1 : IntKind.i64.wrap ((n : Int) + 1 - 1) = n + 1 - 1 := IntWalk.i64_in _ (by omega)
      have HM1 := (show Hid _ from hm1)
      clear hm1
      go_wp2_with fail
      all_goals
        go_meet
        exact ⟨by first | (rw [HM1.out]; done) | (rw [HM1.out]; rfl) | (rw [HM1.out]; congr 1; omega), rfl⟩
    · have hm1 : max lim 1 = lim := by omega
      have hw1 : IntKind.i64.wrap ((n : Int) + 1 - lim) = n + 1 - lim := IntWalk.i64_in _ (by omega)
      have hc2 : ¬ lim < 1 := by omega
      have HM1 := (show Hid _ from hm1)
      clear hm1
      go_wp2_with fail
      all_goals
        go_meet
        exact ⟨by first | (rw [HM1.out]; done) | (rw [HM1.out]; rfl) | (rw [HM1.out]; congr 1; omega), rfl⟩
  case rest =>
    obtain ⟨rfl, hwc⟩ := hcut
    subst wc
    obtain ⟨z, hz⟩ : ∃ z, z = max lim 1 := ⟨_, rfl⟩
    have hz1 : 1 ≤ z := by omega
    have hz2 : z ≤ 9223372036854775807 := by omega
    have HZ : Hid (z = max lim 1) := hz
    rw [← hz]
    clear hz
    go_upto_if 37 with fail
    go_cut [] from 7 to 67 (fun wx => Hid (Pt B S M w (min (n + 1) z) wx))
    case first =>
      rcases Int.lt_or_le 0 ((n : Int) + 1 - z) with hov | hov
      · obtain ⟨q1, q2, q3, q4⟩ := H1.out
        obtain ⟨h, b, hr0, hTr, hct⟩ : ∃ h b, cur2[0]? = some (.pointer (some ⟨b, 0, none⟩)) ∧ Tree σ1 h b ∧ cont σ1 h b = L ++ [⟨u + 1, idx, 0⟩] := by
          rcases q1.st with ⟨_, e⟩ | e
          · simp at e
          · exact e
        have hll : ((L ++ [(⟨u + 1, idx, 0⟩ : Ent)]).length : Int) = n + 1 := by simp; have := HLN.out.1; omega
        have b0 : W2.cell? ⟨S, 0, none⟩ = some (.pointer (some ⟨b, 0, none⟩)) := by rw [cell_of_row W2 S 0 _ 36 (0, 0) q1.hS]; exact hr0
        have b1 : W2.cell? ⟨S, 1, none⟩ = some (.int .i64 (n + 1)) := by rw [cell_of_row W2 S 1 _ 36 (0, 0) q1.hS, q1.c1, hll]
        have hln := mapLen_any S (n + 1) W2.drew b1
        have HLE := (show Hid _ from hln)
        have hat := mapAt_any B S σ1 h b (n + 1) (n + 1 - z) W2.drew q1.inv.drew q1.hB hTr.wf (by rw [hct, hll]) (by rw [hct]; omega) b0 b1 (by omega) (by omega)
        have HAT := (show Hid _ from hat)
        have HW : Hid (IntKind.i64.wrap (IntKind.i64.wrap 0 + ((n : Int) + 1 - z)) = n + 1 - z) := by
          show IntKind.i64.wrap (IntKind.i64.wrap 0 + ((n : Int) + 1 - z)) = n + 1 - z
          rw [IntWalk.i64_in 0 (by omega), Int.zero_add]; exact IntWalk.i64_in _ (by omega)
        clear q1 q2 q3 q4 hr0 hTr hct hln hat b0 b1
        go_upto_region 6 with fail
        go_cut [] from 7 to 59 (fun wx => Hid (∃ fl w5, Below W2.heap.size W2 w5 ∧ wx = w5.setCell ⟨S, 9, none⟩ (.int .u64 fl)))
        case first =>
          go_region_held (fun w' => w'.cell? ⟨S, 10, none⟩ = some (.int .i64 (n + 1))) (first | exact a10 | exact d10 | exact e10 _ | go_keep)
            (first
              | (go_at_call 18; refine Calls.mono HLE.out ?_; rintro e w' ⟨rfl, hw'⟩; subst w')
              | (go_at_call 19; rw [HW.out]; refine Calls.mono HAT.out ?_; rintro e w5 ⟨fl, vv, rfl, hb5⟩; have hh : w5.heap[S]? = some (.cells cur2 36 (0, 0)) := ((hb5.block S (heap_lt H1.out.1.hS)).trans H1.out.1.hS); have c9 : w5.cell? ⟨S, 9, none⟩ = some (.int .u64 0) := (by rw [cell_of_row w5 S 9 _ 36 (0, 0) hh]; exact H1.out.2.2.2); have f9 : w5.frozen? ⟨S, 9, none⟩ = false := (by simp [World.frozen?, hh]); have d10 : w5.cell? ⟨S, 10, none⟩ = some (.int .i64 (n + 1)) := (by rw [cell_of_row w5 S 10 _ 36 (0, 0) hh]; exact H1.out.1.c10); have e10 : ∀ v, (w5.setCell ⟨S, 9, none⟩ v).cell? ⟨S, 10, none⟩ = some (.int .i64 (n + 1)) := (fun v => by rw [cell_of_row _ S 10 _ 36 (0, 0) (heap_setCell_at (j := 9) v hh), Array.getElem?_setIfInBounds, if_neg (by omega)]; exact H1.out.1.c10); have HB5 := (show Hid (Below W2.heap.size W2 w5) from ⟨hb5.1, hb5.2, hb5.3, hb5.4, hb5.5⟩); clear hb5 hh))
          all_goals
            go_wp2_with fail
            go_meet
            exact ⟨fl, w5, HB5.out, rfl⟩
        case rest =>
          obtain ⟨fl, w5, hb5, hwc⟩ := hcut.out
          obtain ⟨q1, q2, q3, q4⟩ := H1.out
          have hs5 := q1.below hb5
          have hk5 : KpM B S M w w5 := q2.trans (KpM.of (KpS.of (Kp.of_below hb5 q1.hB)))
          have hs6 : Ses B S M wc σ1 (L ++ [⟨u + 1, idx, 0⟩]) (m + 1) (D.put (.int .u64 idx) (.lit (.int .u64 (u + 1)))) (u + 1) (n + 1) (cur2.setIfInBounds 9 (.int .u64 fl)) := by
            rw [hwc]; exact hs5.setJ _ (.inl rfl) (by rw [Array.getElem?_setIfInBounds, if_neg (by omega)]; exact hs5.c10)
          have hk6 : KpM B S M w wc := by rw [hwc]; exact hk5.trans (KpM.of (KpS.setCell _ q1.hBS))
          have g10 : wc.cell? ⟨S, 10, none⟩ = some (.int .i64 (n + 1)) := by rw [cell_of_row wc S 10 _ 36 (0, 0) hs6.hS]; exact hs6.c10
          have f10 : wc.frozen? ⟨S, 10, none⟩ = false := by simp [World.frozen?, hs6.hS]
          have hw4 : IntKind.i64.wrap ((n : Int) + 1 - (n + 1 - z)) = z := by
            rw [show (n : Int) + 1 - (n + 1 - z) = z by omega]; exact IntWalk.i64_in _ (by omega)
          have hw5 : (n : Int) + 1 - (n + 1 - z) = z := by omega
          have hw6 : IntKind.i64.wrap z = z := IntWalk.i64_in _ (by omega)
          have H7 : Hid (Pt B S M w (min (n + 1) z) (wc.setCell ⟨S, 10, none⟩ (.int .i64 z))) := by
            have hmin : min ((n : Int) + 1) z = z := by omega
            rw [hmin]
            refine ⟨σ1, _, _, _, _, _, hs6.setJ (.int .i64 z) (.inr rfl) (by rw [Array.getElem?_setIfInBounds, if_pos rfl, if_pos (by rw [hs6.sz]; omega)]), by simp; have := HLN.out.1; omega, by omega, by omega, ?_, ⟨fl, ?_⟩, hk6.trans (KpM.of (KpS.setCell _ q1.hBS))⟩
            · rw [Array.getElem?_setIfInBounds, if_neg (by omega), Array.getElem?_setIfInBounds, if_neg (by omega)]; exact q3
            · rw [Array.getElem?_setIfInBounds, if_neg (by omega), Array.getElem?_setIfInBounds, if_pos rfl, if_pos (by rw [q1.sz]; omega)]
          clear hcut hb5 hwc q1 q2 q3 q4 hs5 hk5 hs6 hk6 HLE HAT
          go_wp2_with fail
          go_meet
          exact H7.out
      · have hov2 : ¬ 0 < (n : Int) + 1 - z := by omega
        go_wp2_with fail
        go_meet
        obtain ⟨q1, q2, q3, q4⟩ := H1.out
        have hmin : min ((n : Int) + 1) z = n + 1 := by omega
        rw [hmin]
        exact ⟨_, _, _, _, _, _, q1, by simp; have := HLN.out.1; omega, by omega, by simp; have := HLN.out.1; omega, q3, ⟨0, q4⟩, q2⟩
    case rest =>
      obtain ⟨σ3, L3, m3, D3, u3, cur3, p1, p2, p3, p4, p5, p6, p7⟩ := hcut.out
      have hti := HT.out B M m3 σ3 L3 D3 u3 _ cur3 wc p1 p2 p3 (by omega) p4 p5 p6
      have HTI := (show Hid _ from hti)
      have HK : Hid (KpM B S M w wc) := p7
      clear hcut p1 p2 p3 p4 p5 p6 p7 hti HT H1 a10
      go_wp2_with fail
      refine Calls.mono HTI.out ?_
      rintro e w4 ⟨rfl, cur4, t1, t2, t3, t4⟩
      have HF : Hid (∃ cur', w4.heap[S]? = some (.cells cur' 36 (0, 0)) ∧ cur'.size = 11 ∧ cur'[10]? = some (.int .i64 (min (n + 1) (max lim 1))) ∧ KpM B S M w w4) := ⟨cur4, t1, t2, by rw [← HZ.out]; exact t3, HK.out.trans t4⟩
      clear t1 t2 t3 t4 HTI
      go_wp2_with fail
      go_end0
      exact ⟨rfl, HF.out⟩
end Go.Proofs.Qxb6613550a
