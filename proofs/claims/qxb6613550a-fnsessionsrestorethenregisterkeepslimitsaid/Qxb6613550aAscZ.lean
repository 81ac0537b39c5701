/-
  node.ascend: the walk, at a leaf.
-/
import Derived.Test.Qxb6613550aAscB
namespace Go.Proofs.Qxb6613550a
open Go.RowKit Go.Shelf
set_option linter.unusedVariables false
attribute [local go_sem] Oper.semAt_some

set_option maxRecDepth 100000 in
set_option maxHeartbeats 8000000 in
theorem asc_zero (l N B : Nat) (σ : Sto) (J Jx : List SE → World → Prop) (hY : YieldsOk l N J Jx) (hJg : ∀ pre (W W' : World), J pre W → W.grownBy W' none → J pre W') :
    ∀ (b n : Nat) (fp : Option Addr) (pre : List SE) (W : World), Inv B W σ → WF σ 0 b → Srt (cont σ 0 b) → (∀ e ∈ cont σ 0 b, OkE e) → (fp = none ∨ ∃ x key, fp = some x ∧ W.cell? x = some (.int .u64 key)) → J pre W → pre.length + (cont σ 0 b).length ≤ N →
    CallsIn Fence.wide n Try.prog 55 #[.pointer (some ⟨b, 0, none⟩), .pointer fp, .func (.yield l) #[] #[]] W (AscPost J Jx pre (cont σ 0 b).length W) := by
  have hdd : ∀ k : Nat, (Fence.wide.depth.isSome = true → 1 ≤ k) := fun k h => by cases h
  intro b n fp pre W hI hw hs hok hfp hJ hN
  obtain ⟨nd, hnd, hnd31, -⟩ := hw.get
  have hz := (hw.zero hnd).1
  have hcb : nd.cs.isEmpty = true := by rw [hz]; rfl
  have HCB := (show Hid _ from hcb)
  have hcl : (cont σ 0 b).length = nd.es.length := by simp [cont, ents_of hnd]
  have nN := hI.node b nd hnd
  obtain ⟨z, hzl⟩ : ∃ z, z = nd.es.length := ⟨_, rfl⟩
  rw [← hzl] at hcl hnd31
  have HALL : Hid (Inv B W σ ∧ σ b = some nd ∧ z = nd.es.length ∧ (∀ e ∈ nd.es, OkE e) ∧ J pre W ∧ pre.length + z ≤ N) :=
    ⟨hI, hnd, hzl, fun e he => hok e (mem_es hw hnd he), hJ, by omega⟩
  have hse := srt_es hw hnd hs
  rw [hcl]
  clear hz hcb hok hJ hN hI hw hnd hzl hcl hs
  rcases hfp with rfl | ⟨x, key, rfl, hx⟩
  · have hrz : 0 ≤ z := by omega
    have HST : Hid (∃ q0 : List SE, q0.length + (z - 0) ≤ z ∧ J (pre ++ q0) W ∧ Inv B W σ ∧ Kq W W) := ⟨[], by simp, by simpa using HALL.out.2.2.2.2.1, HALL.out.1, Kq.refl _⟩
    refine callsIn_of_wp Try.func55 rfl trivial ?_ rfl
    simp only [Try.ntmps55, List.size_toArray, List.length_cons, List.length_nil, Nat.reduceAdd, Nat.reduceSub, Array.replicate_succ, Array.replicate_zero, List.push_toArray, List.append_toArray, List.nil_append, List.cons_append]
    gi_wp2_with fail
    refine ⟨trivial, hdd _, ?_⟩
    refine (callsIn_wide.2 (leaf_any B b nd _ nN)).mono ?_
    rintro e w' ⟨rfl, hw'⟩
    subst w'
    rw [HCB.out]
    clear nN
    gi_wp2_with fail
    refine ⟨trivial, ?_⟩
    gi_wp2_with fail
    gi_loopw [7] (fun s7 wr => ∃ (j : Nat) (q : List SE), j ≤ z ∧ s7 = .int .i64 j ∧ Hid (q.length + (z - j) ≤ z ∧ J (pre ++ q) wr ∧ Inv B wr σ ∧ Kq W wr)) (fun s7 wr => z - (intOf s7).toNat)
    case atStart =>
      obtain ⟨q0, t1, t2, t3, t4⟩ := HST.out
      exact ⟨0, q0, hrz, rfl, t1, t2, t3, t4⟩
    case round =>
      obtain ⟨j, q, hj, rfl, hq⟩ := hrel
      have nN := hq.out.2.2.1.node b nd HALL.out.2.1
      by_cases hjz : j < z
      · have hjl : j < nd.es.length := by rw [← HALL.out.2.2.1]; exact hjz
        obtain ⟨ge, le, cp, HV, hl0, hl1, c1, -, -⟩ := nN.rowE (by omega)
        have hle : le = z := by rw [HV.out.2, HALL.out.2.2.1]
        subst hle
        obtain ⟨x0, x1, x2, x3⟩ := nN.entry HV.out.1 (i := j) hjl
        have hoe := HALL.out.2.2.2.1 nd.es[j] (List.getElem_mem hjl)
        obtain ⟨yk, yc, ys, hy⟩ : ∃ yk yc ys, nd.es[j] = ⟨yk, yc, ys⟩ := ⟨_, _, _, rfl⟩
        rw [hy] at x0 x1 x2 hoe
        have hjI : (j : Int) < le := by omega
        have hcnt : (pre ++ q).length < N := by have := hq.out.1; have := HALL.out.2.2.2.2.2; rw [List.length_append]; omega
        obtain ⟨fn, tmps, assign, body, hy1, hR⟩ := hY (n - 1) (pre ++ q) ⟨⟨yk, yc, ys⟩, hoe⟩ wr.drew (hJg _ _ _ hq.out.2.1 (grown_drew wr)) hcnt
        simp only [encE] at hy1
        clear hy nN hcnt
        gi_wp2_with fail
        apply wpIn_region_ex (X := fun ok W2 => YO J Jx (pre ++ q) ⟨⟨yk, yc, ys⟩, hoe⟩ wr.drew ok W2)
        case h =>
          gi_region_with (refine ⟨hdd _, ?_⟩; refine hR.mono ?_; intro e W2 hor; obtain ⟨ok, rfl, hO⟩ := yo_of hor; clear hor)
          all_goals exact ⟨ok, rfl, hO.out⟩
        intro ok W2 hO
        rcases hO with ⟨rfl, hJ2, hk2⟩ | ⟨rfl, hx2⟩
        · have hkw : Kq W W2 := hq.out.2.2.2.trans ⟨hk2.size, hk2.same⟩
          have hI2 : Inv B W2 σ := hkw.inv HALL.out.1
          have nN := hI2.node b nd HALL.out.2.1
          have HN : Hid ((q ++ [(⟨⟨yk, yc, ys⟩, hoe⟩ : SE)]).length + (le - (j + 1)) ≤ le ∧ J (pre ++ (q ++ [⟨⟨yk, yc, ys⟩, hoe⟩])) W2 ∧ Inv B W2 σ ∧ Kq W W2) := ⟨by have := hq.out.1; simp; omega, by rw [← List.append_assoc]; exact hJ2, hI2, hkw⟩
          clear hJ2 hk2 hkw hI2 c1 x0 x1 x2 x3 hy1
          gi_wp2_with fail
          refine ⟨trivial, hdd _, ?_⟩
          refine (callsIn_wide.2 (leaf_any B b nd _ nN)).mono ?_
          rintro e w' ⟨rfl, hw'⟩
          subst w'
          rw [HCB.out]
          clear nN
          gi_wp2_with fail
          refine ⟨trivial, ?_⟩
          gi_wp2_with fail
          go_roundw
          case rel => exact ⟨j + 1, _, by omega, by go_num, HN.out⟩
          case measure => simp [intOf]; omega
        · gi_wp2_with fail
          go_ret
          exact .inr ⟨rfl, q ++ [⟨⟨yk, yc, ys⟩, hoe⟩], by rw [← List.append_assoc]; exact hx2⟩
      · obtain rfl : j = z := by omega
        obtain ⟨ae, cape, hve⟩ := ownsRow_shape nN.ents
        rw [← HALL.out.2.2.1] at hve
        have c1 : wr.cell? ⟨b, 1, none⟩ = some (.slice ae j cape) := by rw [nN.cells.2.1, hve]
        clear nN hve
        gi_wp2_with fail
        go_ret
        exact .inl ⟨rfl, ⟨q, by have := hq.out.1; omega, hq.out.2.1⟩, hq.out.2.2.2⟩
  · have hsr := search_le B b nd key W nN hse
    have HSR := (show Hid _ from hsr)
    clear hsr hse nN
    refine callsIn_of_wp Try.func55 rfl trivial ?_ rfl
    simp only [Try.ntmps55, List.size_toArray, List.length_cons, List.length_nil, Nat.reduceAdd, Nat.reduceSub, Array.replicate_succ, Array.replicate_zero, List.push_toArray, List.append_toArray, List.nil_append, List.cons_append]
    gi_wp2_with fail
    refine ⟨trivial, hdd _, ?_⟩
    refine (callsIn_wide.2 HSR.out).mono ?_
    rintro e wz ⟨r, fd, rfl, hrz, m, hwz⟩
    rw [← HALL.out.2.2.1] at hrz
    have hkz : Kq W wz := by rw [hwz]; exact Kq.drewN W m
    have nN := (hkz.inv HALL.out.1).node b nd HALL.out.2.1
    have HST : Hid (∃ q0 : List SE, q0.length + (z - r) ≤ z ∧ J (pre ++ q0) wz ∧ Inv B wz σ ∧ Kq W wz) := ⟨[], by simp, by rw [List.append_nil, hwz]; exact hJg _ _ _ HALL.out.2.2.2.2.1 (grown_drewN W m), hkz.inv HALL.out.1, hkz⟩
    clear HSR hwz hx hkz
    gi_wp2_with fail
    refine ⟨trivial, hdd _, ?_⟩
    refine (callsIn_wide.2 (leaf_any B b nd _ nN)).mono ?_
    rintro e w' ⟨rfl, hw'⟩
    subst w'
    rw [HCB.out]
    clear nN
    gi_wp2_with fail
    refine ⟨trivial, ?_⟩
    gi_wp2_with fail
    gi_loopw [7] (fun s7 wr => ∃ (j : Nat) (q : List SE), j ≤ z ∧ s7 = .int .i64 j ∧ Hid (q.length + (z - j) ≤ z ∧ J (pre ++ q) wr ∧ Inv B wr σ ∧ Kq W wr)) (fun s7 wr => z - (intOf s7).toNat)
    case atStart =>
      obtain ⟨q0, t1, t2, t3, t4⟩ := HST.out
      exact ⟨r, q0, hrz, rfl, t1, t2, t3, t4⟩
    case round =>
      obtain ⟨j, q, hj, rfl, hq⟩ := hrel
      have nN := hq.out.2.2.1.node b nd HALL.out.2.1
      by_cases hjz : j < z
      · have hjl : j < nd.es.length := by rw [← HALL.out.2.2.1]; exact hjz
        obtain ⟨ge, le, cp, HV, hl0, hl1, c1, -, -⟩ := nN.rowE (by omega)
        have hle : le = z := by rw [HV.out.2, HALL.out.2.2.1]
        subst hle
        obtain ⟨x0, x1, x2, x3⟩ := nN.entry HV.out.1 (i := j) hjl
        have hoe := HALL.out.2.2.2.1 nd.es[j] (List.getElem_mem hjl)
        obtain ⟨yk, yc, ys, hy⟩ : ∃ yk yc ys, nd.es[j] = ⟨yk, yc, ys⟩ := ⟨_, _, _, rfl⟩
        rw [hy] at x0 x1 x2 hoe
        have hjI : (j : Int) < le := by omega
        have hcnt : (pre ++ q).length < N := by have := hq.out.1; have := HALL.out.2.2.2.2.2; rw [List.length_append]; omega
        obtain ⟨fn, tmps, assign, body, hy1, hR⟩ := hY (n - 1) (pre ++ q) ⟨⟨yk, yc, ys⟩, hoe⟩ wr.drew (hJg _ _ _ hq.out.2.1 (grown_drew wr)) hcnt
        simp only [encE] at hy1
        clear hy nN hcnt
        gi_wp2_with fail
        apply wpIn_region_ex (X := fun ok W2 => YO J Jx (pre ++ q) ⟨⟨yk, yc, ys⟩, hoe⟩ wr.drew ok W2)
        case h =>
          gi_region_with (refine ⟨hdd _, ?_⟩; refine hR.mono ?_; intro e W2 hor; obtain ⟨ok, rfl, hO⟩ := yo_of hor; clear hor)
          all_goals exact ⟨ok, rfl, hO.out⟩
        intro ok W2 hO
        rcases hO with ⟨rfl, hJ2, hk2⟩ | ⟨rfl, hx2⟩
        · have hkw : Kq W W2 := hq.out.2.2.2.trans ⟨hk2.size, hk2.same⟩
          have hI2 : Inv B W2 σ := hkw.inv HALL.out.1
          have nN := hI2.node b nd HALL.out.2.1
          have HN : Hid ((q ++ [(⟨⟨yk, yc, ys⟩, hoe⟩ : SE)]).length + (le - (j + 1)) ≤ le ∧ J (pre ++ (q ++ [⟨⟨yk, yc, ys⟩, hoe⟩])) W2 ∧ Inv B W2 σ ∧ Kq W W2) := ⟨by have := hq.out.1; simp; omega, by rw [← List.append_assoc]; exact hJ2, hI2, hkw⟩
          clear hJ2 hk2 hkw hI2 c1 x0 x1 x2 x3 hy1
          gi_wp2_with fail
          refine ⟨trivial, hdd _, ?_⟩
          refine (callsIn_wide.2 (leaf_any B b nd _ nN)).mono ?_
          rintro e w' ⟨rfl, hw'⟩
          subst w'
          rw [HCB.out]
          clear nN
          gi_wp2_with fail
          refine ⟨trivial, ?_⟩
          gi_wp2_with fail
          go_roundw
          case rel => exact ⟨j + 1, _, by omega, by go_num, HN.out⟩
          case measure => simp [intOf]; omega
        · gi_wp2_with fail
          go_ret
          exact .inr ⟨rfl, q ++ [⟨⟨yk, yc, ys⟩, hoe⟩], by rw [← List.append_assoc]; exact hx2⟩
      · obtain rfl : j = z := by omega
        obtain ⟨ae, cape, hve⟩ := ownsRow_shape nN.ents
        rw [← HALL.out.2.2.1] at hve
        have c1 : wr.cell? ⟨b, 1, none⟩ = some (.slice ae j cape) := by rw [nN.cells.2.1, hve]
        clear nN hve
        gi_wp2_with fail
        go_ret
        exact .inl ⟨rfl, ⟨q, by have := hq.out.1; omega, hq.out.2.1⟩, hq.out.2.2.2⟩
end Go.Proofs.Qxb6613550a
