/-
  node.ascend: the walk, at a node that is no leaf, from the first entry on.
-/
import Derived.Test.Qxb6613550aAscB
namespace Go.Proofs.Qxb6613550a
open Go.RowKit Go.Shelf
set_option linter.unusedVariables false
attribute [local go_sem] Oper.semAt_some

set_option maxRecDepth 100000 in
set_option maxHeartbeats 8000000 in
theorem asc_succ_none (l N B : Nat) (σ : Sto) (J Jx : List SE → World → Prop) (hY : YieldsOk l N J Jx) (hJg : ∀ pre (W W' : World), J pre W → W.grownBy W' none → J pre W') (g : Nat)
    (ih : ∀ (b n : Nat) (fp : Option Addr) (pre : List SE) (W : World), Inv B W σ → WF σ g b → Srt (cont σ g b) → (∀ e ∈ cont σ g b, OkE e) → (fp = none ∨ ∃ x key, fp = some x ∧ W.cell? x = some (.int .u64 key)) → J pre W → pre.length + (cont σ g b).length ≤ N →
    CallsIn Fence.wide n Try.prog 55 #[.pointer (some ⟨b, 0, none⟩), .pointer fp, .func (.yield l) #[] #[]] W (AscPost J Jx pre (cont σ g b).length W))
    (b n : Nat) (pre : List SE) (W : World) (hI : Inv B W σ) (hw : WF σ (g + 1) b) (hs : Srt (cont σ (g + 1) b)) (hok : ∀ e ∈ cont σ (g + 1) b, OkE e) (hJ : J pre W) (hN : pre.length + (cont σ (g + 1) b).length ≤ N) :
    CallsIn Fence.wide n Try.prog 55 #[.pointer (some ⟨b, 0, none⟩), .pointer none, .func (.yield l) #[] #[]] W (AscPost J Jx pre (cont σ (g + 1) b).length W) := by
  have hdd : ∀ k : Nat, (Fence.wide.depth.isSome = true → 1 ≤ k) := fun k h => by cases h
  obtain ⟨nd, hnd, hnd31, -⟩ := hw.get
  obtain ⟨s1, s2, s3, s4⟩ := hw.succ hnd
  have hcb : nd.cs.isEmpty = false := by cases hq : nd.cs with | nil => exact absurd hq (hw.ne hnd) | cons _ _ => rfl
  have HCB := (show Hid _ from hcb)
  have nN := hI.node b nd hnd
  obtain ⟨z, hzl⟩ : ∃ z, z = nd.es.length := ⟨_, rfl⟩
  rw [← hzl] at hnd31
  have HS : Hid (nd.cs.length = nd.es.length + 1 ∧ ∀ c ∈ nd.cs, WF σ g c ∧ 15 ≤ nE σ c) := ⟨s1, s4⟩
  have HS2 : Hid (WF σ (g + 1) b ∧ Srt (cont σ (g + 1) b) ∧ ∀ e ∈ cont σ (g + 1) b, OkE e) := ⟨hw, hs, hok⟩
  have hst0 : ∀ (r : Nat) (hr : r < nd.cs.length), (cont σ g nd.cs[r]).length + leftS σ g nd r ≤ (cont σ (g + 1) b).length := fun r hr => leftS_start (g := g) hnd s1 (by omega)
  obtain ⟨tot, htot⟩ : ∃ tot, tot = (cont σ (g + 1) b).length := ⟨_, rfl⟩
  rw [← htot] at hN hst0 ⊢
  have HST0 := (show Hid _ from hst0)
  have HALL : Hid (Inv B W σ ∧ σ b = some nd ∧ z = nd.es.length ∧ (∀ e ∈ nd.es, OkE e) ∧ J pre W ∧ pre.length + tot ≤ N) :=
    ⟨hI, hnd, hzl, fun e he => hok e (mem_es hw hnd he), hJ, hN⟩
  have hse := srt_es hw hnd hs
  clear hcb hok hJ hN hI hw hnd hzl hs s1 s2 s3 s4 hst0 htot
  have hrz : 0 ≤ z := by omega
  have HINV : Hid (Inv B W σ ∧ J pre W ∧ Kq W W) := ⟨HALL.out.1, HALL.out.2.2.2.2.1, Kq.refl _⟩
  have hrl : 0 < nd.cs.length := by have := HS.out.1; have := HALL.out.2.2.1; omega
  obtain ⟨gc, lc, capc, HVC, hlc0, hlc1, c2, -, -⟩ := nN.rowC (by omega)
  have kc := nN.kid HVC.out.1 (i := 0) hrl
  have hcm : nd.cs[0] ∈ nd.cs := List.getElem_mem hrl
  have hs0 := HST0.out 0 hrl
  obtain ⟨cc, hcc⟩ : ∃ cc, nd.cs[0] = cc := ⟨_, rfl⟩
  rw [hcc] at kc hcm hs0
  have hrI : (0 : Int) < lc := by rw [HVC.out.2]; omega
  have hcall := ih cc (n - 1) none pre W HINV.out.1 (HS.out.2 cc hcm).1 (srt_kid HS2.out.1 HALL.out.2.1 HS2.out.2.1 hcm) (fun e he => HS2.out.2.2 e (mem_kid HS2.out.1 HALL.out.2.1 hcm he)) (.inl rfl) HINV.out.2.1 (by have := HALL.out.2.2.2.2.2; omega)
  have HC := (show Hid _ from hcall)
  have HS0 : Hid ((cont σ g cc).length + leftS σ g nd 0 ≤ tot) := hs0
  clear hcall hs0 hcc hcm hrl
  refine callsIn_of_wp Try.func55 rfl trivial ?_ rfl
  simp only [Try.ntmps55, List.size_toArray, List.length_cons, List.length_nil, Nat.reduceAdd, Nat.reduceSub, Array.replicate_succ, Array.replicate_zero, List.push_toArray, List.append_toArray, List.nil_append, List.cons_append]
  gi_wp2_with fail
  refine ⟨trivial, hdd _, ?_⟩
  refine (callsIn_wide.2 (leaf_any B b nd _ nN)).mono ?_
  rintro e w' ⟨rfl, hw'⟩
  subst w'
  rw [HCB.out]
  clear nN
  gi_wp2_with fail
  refine ⟨trivial, hdd _, ?_⟩
  refine CallsIn.mono HC.out ?_
  rintro e W1 (⟨rfl, ⟨q0, hq0, hJ0⟩, hk0⟩ | ⟨rfl, q0, hx0⟩)
  · have HST : Hid (∃ q0 : List SE, q0.length + leftS σ g nd 0 ≤ tot ∧ J (pre ++ q0) W1 ∧ Inv B W1 σ ∧ Kq W W1) :=
      ⟨q0, by have := HS0.out; omega, hJ0, (HINV.out.2.2.trans hk0).inv HALL.out.1, HINV.out.2.2.trans hk0⟩
    clear hJ0 hk0 hq0 HC c2 kc
    gi_wp2_with fail
    gi_loopw [7] (fun s7 wr => ∃ (j : Nat) (q : List SE), j ≤ z ∧ s7 = .int .i64 j ∧ Hid (q.length + leftS σ g nd j ≤ tot ∧ J (pre ++ q) wr ∧ Inv B wr σ ∧ Kq W wr)) (fun s7 wr => z - (intOf s7).toNat)
    case atStart =>
      obtain ⟨q0, t1, t2, t3, t4⟩ := HST.out
      exact ⟨0, q0, hrz, rfl, t1, t2, t3, t4⟩
    case round =>
      obtain ⟨j, q, hj, rfl, hq⟩ := hrel
      have nN := hq.out.2.2.1.node b nd HALL.out.2.1
      by_cases hjz : j < z
      · have hjl : j < nd.es.length := by rw [← HALL.out.2.2.1]; exact hjz
        obtain ⟨ge, le, cp, HV, hl0, hl1, c1, -, -⟩ := nN.rowE (by omega)
        have hle : le = z := by rw [HV.out.2, HALL.out.2.2.1]
        subst hle
        obtain ⟨x0, x1, x2, x3⟩ := nN.entry HV.out.1 (i := j) hjl
        have hoe := HALL.out.2.2.2.1 nd.es[j] (List.getElem_mem hjl)
        obtain ⟨yk, yc, ys, hy⟩ : ∃ yk yc ys, nd.es[j] = ⟨yk, yc, ys⟩ := ⟨_, _, _, rfl⟩
        rw [hy] at x0 x1 x2 hoe
        have hjI : (j : Int) < le := by omega
        have hnx := leftS_next (σ := σ) (g := g) HS.out.1 hjl
        obtain ⟨c', hc'⟩ : ∃ c', nd.cs[j + 1]'(by have := HS.out.1; omega) = c' := ⟨_, rfl⟩
        have hcm' : c' ∈ nd.cs := by rw [← hc']; exact List.getElem_mem _
        rw [hc'] at hnx
        have hcnt : (pre ++ q).length < N := by have := hq.out.1; have := HALL.out.2.2.2.2.2; rw [List.length_append]; omega
        obtain ⟨fn, tmps, assign, body, hy1, hR⟩ := hY (n - 1) (pre ++ q) ⟨⟨yk, yc, ys⟩, hoe⟩ wr.drew (hJg _ _ _ hq.out.2.1 (grown_drew wr)) hcnt
        simp only [encE] at hy1
        clear hy nN hcnt
        gi_wp2_with fail
        apply wpIn_region_ex (X := fun ok W2 => YO J Jx (pre ++ q) ⟨⟨yk, yc, ys⟩, hoe⟩ wr.drew ok W2)
        case h =>
          gi_region_with (refine ⟨hdd _, ?_⟩; refine hR.mono ?_; intro e W2 hor; obtain ⟨ok, rfl, hO⟩ := yo_of hor; clear hor)
          all_goals exact ⟨ok, rfl, hO.out⟩
        intro ok W2 hO
        rcases hO with ⟨rfl, hJ2, hk2⟩ | ⟨rfl, hx2⟩
        · have hkw : Kq W W2 := hq.out.2.2.2.trans ⟨hk2.size, hk2.same⟩
          have hI2 : Inv B W2 σ := hkw.inv HALL.out.1
          have nN := hI2.node b nd HALL.out.2.1
          have hl1' : j + 1 < nd.cs.length := by have := HS.out.1; omega
          obtain ⟨gc, lc, capc, HVC, hlc0, hlc1, c2, -, -⟩ := nN.rowC (by omega)
          have kc := nN.kid HVC.out.1 (i := j + 1) hl1'
          rw [hc'] at kc
          have hjc : ((j : Int) + 1) < lc := by rw [HVC.out.2]; omega
          have hcc := ih c' (n - 1) none (pre ++ (q ++ [⟨⟨yk, yc, ys⟩, hoe⟩])) W2 hI2 (HS.out.2 c' hcm').1 (srt_kid HS2.out.1 HALL.out.2.1 HS2.out.2.1 hcm') (fun e he => HS2.out.2.2 e (mem_kid HS2.out.1 HALL.out.2.1 hcm' he)) (.inl rfl) (by rw [← List.append_assoc]; exact hJ2) (by
            have h1 := hq.out.1; have h2 := HALL.out.2.2.2.2.2
            simp only [List.length_append, List.length_cons, List.length_nil]; omega)
          have HCC := (show Hid _ from hcc)
          have HN : Hid (q.length + leftS σ g nd j ≤ tot ∧ leftS σ g nd j = 1 + ((cont σ g c').length + leftS σ g nd (j + 1)) ∧ Kq W W2) := ⟨hq.out.1, hnx, hkw⟩
          clear hJ2 hk2 hkw hI2 c1 x0 x1 x2 x3 hy1 hcc hnx hc' hcm' hl1'
          gi_wp2_with fail
          refine ⟨trivial, hdd _, ?_⟩
          refine (callsIn_wide.2 (leaf_any B b nd _ nN)).mono ?_
          rintro e w' ⟨rfl, hw'⟩
          subst w'
          rw [HCB.out]
          clear nN
          gi_wp2_with fail
          refine ⟨trivial, hdd _, ?_⟩
          refine CallsIn.mono HCC.out ?_
          rintro e W3 (⟨rfl, ⟨q3, hq3, hJ3⟩, hk3⟩ | ⟨rfl, q3, hx3⟩)
          · have HN3 : Hid ((q ++ [(⟨⟨yk, yc, ys⟩, hoe⟩ : SE)] ++ q3).length + leftS σ g nd (j + 1) ≤ tot ∧ J (pre ++ (q ++ [⟨⟨yk, yc, ys⟩, hoe⟩] ++ q3)) W3 ∧ Inv B W3 σ ∧ Kq W W3) :=
              ⟨by have := HN.out; simp only [List.length_append, List.length_cons, List.length_nil]; omega, by simpa [List.append_assoc] using hJ3, (HN.out.2.2.trans hk3).inv HALL.out.1, HN.out.2.2.trans hk3⟩
            clear hJ3 hk3 hq3 HCC
            gi_wp2_with fail
            go_roundw
            case rel => exact ⟨j + 1, _, by omega, by go_num, HN3.out⟩
            case measure => simp [intOf]; omega
          · clear HCC
            gi_wp2_with fail
            go_ret
            exact .inr ⟨rfl, q ++ [⟨⟨yk, yc, ys⟩, hoe⟩] ++ q3, by simpa [List.append_assoc] using hx3⟩
        · gi_wp2_with fail
          go_ret
          exact .inr ⟨rfl, q ++ [⟨⟨yk, yc, ys⟩, hoe⟩], by rw [← List.append_assoc]; exact hx2⟩
      · obtain rfl : j = z := by omega
        obtain ⟨ae, cape, hve⟩ := ownsRow_shape nN.ents
        rw [← HALL.out.2.2.1] at hve
        have c1 : wr.cell? ⟨b, 1, none⟩ = some (.slice ae j cape) := by rw [nN.cells.2.1, hve]
        clear nN hve
        gi_wp2_with fail
        go_ret
        exact .inl ⟨rfl, ⟨q, by have := hq.out.1; omega, hq.out.2.1⟩, hq.out.2.2.2⟩
  · clear HC
    gi_wp2_with fail
    go_ret
    exact .inr ⟨rfl, q0, hx0⟩

end Go.Proofs.Qxb6613550a
