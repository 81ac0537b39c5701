/-
  FnSessionsRestoreThenRegisterKeepsLimit: the walk.
-/
import Derived.Test.Qxb6613550aReg
import Derived.Test.Qxb6613550aTidy
namespace Go.Proofs.Qxb6613550a
open Go.RowKit Go.Maps
set_option linter.unusedVariables false

abbrev ZS : Obj := .cells #[.pointer none, .int .i64 0, .int .u64 0, .map none, .int .i64 0, .map none, .int .i64 0, .int .u64 0, .int .u64 0, .int .u64 0, .int .i64 0] 36

set_option maxHeartbeats 6400000 in
set_option maxRecDepth 100000 in
theorem main_walk (a0 : Option Addr) (n0 c0 : Nat) (xs : List Int) (a1 : Option Addr) (n1 c1 : Nat) (ys : List Int) (idx lim : Int) (w : World) (hx : xs.length = n0) (hy : ys.length = n1) (hA : Arr w a0 xs) (hB : Arr w a1 ys) (hwx : ∀ n ∈ xs, (Lit.int .u64 n).wf = true) (m0 : n0 ≤ maxLen) (m1 : n1 ≤ maxLen) (wi : (Lit.int .u64 idx).wf = true) (hl0 : -9223372036854775808 ≤ lim) (hl1 : lim ≤ 9223372036854775807) :
    Calls Try.prog 3 #[.slice a0 n0 c0, .slice a1 n1 c1, .int .u64 idx, .int .i64 lim] w fun e w' => e = .returned (.bool true) ∧ Below w.heap.size w w' := by
  have hzb := zzBytes_any a0 a1 n0 c0 n1 c1 idx lim w m0 m1
  have HZB := (show Hid _ from hzb)
  have HIN : Hid (xs.length = n0 ∧ ys.length = n1 ∧ Arr w a0 xs ∧ Arr w a1 ys ∧ ∀ n ∈ xs, (Lit.int .u64 n).wf = true) := ⟨hx, hy, hA, hB, hwx⟩
  have HR0 : Hid (Below w.heap.size w w) := Below.refl _ _
  unfold maxLen at m0 m1
  clear hzb hx hy hA hB hwx
  go_enter Try.func3, Try.ntmps3
  go_wp2_with fail
  refine Calls.mono HZB.out ?_
  rintro e w' ⟨rr, rfl, hw'⟩
  subst w'
  clear HZB
  cases rr with
  | false =>
    go_wp2_with fail
    go_ret
    exact ⟨rfl, HR0.out⟩
  | true =>
    by_cases h0 : 4096 < n0
    · have h0I : (4096 : Int) < n0 := by omega
      go_wp2_with fail
      go_ret
      exact ⟨rfl, HR0.out⟩
    · have h0I : ¬ (4096 : Int) < n0 := by omega
      by_cases h1 : 4096 < n1
      · have h1I : (4096 : Int) < n1 := by omega
        go_wp2_with fail
        go_ret
        exact ⟨rfl, HR0.out⟩
      · have h1I : ¬ (4096 : Int) < n1 := by omega
        by_cases h2 : n0 = n1
        · subst h2
          have hco := contains_any a0 n0 c0 xs idx w HIN.out.1 (by omega) HIN.out.2.2.1
          have HCO := (show Hid _ from hco)
          clear hco
          go_wp2_with fail
          refine Calls.mono HCO.out ?_
          rintro e w' ⟨rfl, hw'⟩
          subst w'
          clear HCO
          obtain ⟨bb, hbb⟩ : ∃ bb, bb = hasX xs idx := ⟨_, rfl⟩
          rw [← hbb]
          clear hbb
          cases bb with
          | true =>
            go_wp2_with fail
            go_ret
            exact ⟨rfl, HR0.out⟩
          | false =>
            have hbu := build_any a0 a1 n0 c0 c1 xs ys w HIN.out.1 HIN.out.2.1 (by omega) HIN.out.2.2.1 HIN.out.2.2.2.1
            have HBU := (show Hid _ from hbu)
            clear hbu
            go_wp2_with fail
            refine Calls.mono HBU.out ?_
            rintro e w1 ⟨v, rfl, hrow, hbel⟩
            obtain ⟨av, cv, hv⟩ := ownsRow_shape hrow
            subst hv
            have hdi := distinct_any a0 n0 c0 xs w1 HIN.out.1 (by omega) (HIN.out.2.2.1.below hbel)
            have HDI := (show Hid _ from hdi)
            have H1 : Hid (w1.ownsRow w.heap.size 47 3 (.slice av n0 cv) n0 (sesCells (xs.zip ys)) ∧ Below w.heap.size w w1) := ⟨hrow, hbel⟩
            clear hrow hbel hdi HBU
            obtain ⟨d, hd⟩ : ∃ d, d = dcTo xs n0 := ⟨_, rfl⟩
            have hdn : d ≤ n0 := by rw [hd]; exact dcTo_le _ _
            have HD : Hid (d = dcTo xs n0) := hd
            rw [← hd] at HDI
            clear hd
            go_wp2_with fail
            refine Calls.mono HDI.out ?_
            rintro e w2 ⟨rfl, k2, hw2⟩
            have H2 : Hid (w2.ownsRow w.heap.size 47 3 (.slice av n0 cv) n0 (sesCells (xs.zip ys)) ∧ Below w.heap.size w w2) := by
              rw [hw2]; exact ⟨H1.out.1, H1.out.2.trans ⟨rfl, rfl, rfl, Nat.le_refl _, fun _ _ => rfl⟩⟩
            clear hw2 HDI H1
            go_upto_region 14 with fail
            obtain ⟨S, hS⟩ : ∃ S, S = w2.heap.size := ⟨_, rfl⟩
            have H3 : Hid ((w2.alloc ZS).heap[S]? = some ZS ∧ (w2.alloc ZS).ownsRow w.heap.size 47 3 (.slice av n0 cv) n0 (sesCells (xs.zip ys)) ∧ Below w.heap.size w (w2.alloc ZS) ∧ w.heap.size ≤ S) := ⟨by rw [hS]; exact alloc_new0 w2 _, H2.out.1.alloc _, H2.out.2.alloc H2.out.2.size _, by rw [hS]; exact H2.out.2.size⟩
            rw [← hS]
            clear hS H2
            generalize w2.alloc (.cells #[.pointer none, .int .i64 0, .int .u64 0, .map none, .int .i64 0, .map none, .int .i64 0, .int .u64 0, .int .u64 0, .int .u64 0, .int .i64 0] 36) = W3 at H3 ⊢
            have hlz : (xs.zip ys).length = n0 := by rw [List.length_zip, HIN.out.1, HIN.out.2.1]; omega
            have hfst : (xs.zip ys).map Prod.fst = xs := List.map_fst_zip (by rw [HIN.out.1, HIN.out.2.1]; exact Nat.le_refl _)
            have hwz : ∀ p ∈ xs.zip ys, (Lit.int .u64 p.1).wf = true := fun p hp => HIN.out.2.2.2.2 p.1 (by rw [← hfst]; exact List.mem_map_of_mem hp)
            have HZ : Hid ((xs.zip ys).length = n0 ∧ (xs.zip ys).map Prod.fst = xs ∧ ∀ p ∈ xs.zip ys, (Lit.int .u64 p.1).wf = true) := ⟨hlz, hfst, hwz⟩
            have hre := restore_any w.heap.size S n0 cv av (xs.zip ys) _ W3 H3.out.1 rfl H3.out.2.2.2 H3.out.2.2.1.size H3.out.2.1 hlz (by omega) hwz
            have HRE := (show Hid _ from hre)
            clear hlz hfst hwz hre
            go_wp2_with fail
            refine Calls.mono HRE.out ?_
            rintro e w4 ⟨rfl, M, σ, L, m, D, cur, p1, p2, p3, p4, p5, p6, p7, p8⟩
            rw [HZ.out.2.1, ← HD.out] at p2
            have hld : (L.length : Int) = d := by rw [p2]
            have p1' := p1
            rw [hld] at p1'
            have l10 : w4.cell? ⟨S, 10, none⟩ = some (.int .i64 d) := by rw [cell_of_row w4 S 10 _ 36 (0, 0) p1'.hS]; exact p1'.c10
            have hle := sesLen_any S d w4 l10
            have HLE := (show Hid _ from hle)
            have hrg := register_any w.heap.size S M m (tidy_ok S) σ L D n0 idx lim cur w4 p1 (by omega) (by omega) (by omega) (by omega) p4 p6 wi hl0 hl1
            rw [hld] at hrg
            have HRG := (show Hid _ from hrg)
            have H4 : Hid (w4.heap[S]? = some (.cells cur 36 (0, 0)) ∧ OwnM w4 M m D ∧ w4.ownsRow w.heap.size 47 3 (.slice av n0 cv) n0 (sesCells (xs.zip ys)) ∧ Below w.heap.size w w4 ∧ w.heap.size ≤ S) := ⟨p1.hS, p1.own, p8, H3.out.2.2.1.trans p7, H3.out.2.2.2⟩
            clear p1 p1' p2 p3 p4 p5 p6 p7 p8 hld l10 hle hrg HRE H3
            go_wp2_with fail
            refine Calls.mono HLE.out ?_
            rintro e w' ⟨rfl, hw'⟩
            subst w'
            clear HLE
            have hdd : ((d : Int) == d) = true := by simp
            go_wp2_with fail
            refine Calls.mono HRG.out ?_
            rintro e w5 ⟨rfl, cur5, t1, t2, t3, t4⟩
            obtain ⟨z, hz⟩ : ∃ z, z = max lim 1 := ⟨_, rfl⟩
            obtain ⟨mn, hmn⟩ : ∃ mn, mn = min ((d : Int) + 1) z := ⟨_, rfl⟩
            rw [← hz, ← hmn] at t3
            have l10 : w5.cell? ⟨S, 10, none⟩ = some (.int .i64 mn) := by rw [cell_of_row w5 S 10 _ 36 (0, 0) t1]; exact t3
            have hle := sesLen_any S mn w5 l10
            have HLE := (show Hid _ from hle)
            have hmo := zzMaxOne_any lim w5
            rw [← hz] at hmo
            have HMO := (show Hid _ from hmo)
            have hmi := zzMin_any (d + 1) z w5
            rw [← hmn] at hmi
            have HMI := (show Hid _ from hmi)
            have hrow5 := row_kpm H4.out.2.2.1 t4 H4.out.1 H4.out.2.1
            have hbel5 : Below w.heap.size w w5 := H4.out.2.2.2.1.trans t4.bel
            have hre := restore_any w.heap.size S n0 cv av (xs.zip ys) cur5 w5 t1 t2 H4.out.2.2.2.2 hbel5.size hrow5 HZ.out.1 (by omega) HZ.out.2.2
            have HRE := (show Hid _ from hre)
            have HB5 : Hid (Below w.heap.size w w5) := hbel5
            have hdw : IntKind.i64.wrap ((d : Int) + 1) = d + 1 := IntWalk.i64_in _ (by omega)
            clear t1 t2 t3 t4 l10 hle hmo hmi hrow5 hbel5 hre HRG H4 hz hmn
            go_wp2_with fail
            refine Calls.mono HLE.out ?_
            rintro e w' ⟨rfl, hw'⟩
            subst w'
            clear HLE
            go_wp2_with fail
            refine Calls.mono HMO.out ?_
            rintro e w' ⟨rfl, hw'⟩
            subst w'
            clear HMO
            go_wp2_with fail
            refine Calls.mono HMI.out ?_
            rintro e w' ⟨rfl, hw'⟩
            subst w'
            clear HMI
            have hmm : (mn == mn) = true := by simp
            go_wp2_with fail
            refine Calls.mono HRE.out ?_
            rintro e w6 ⟨rfl, M6, σ6, L6, m6, D6, cur6, p1, p2, p3, p4, p5, p6, p7, p8⟩
            rw [HZ.out.2.1, ← HD.out] at p2
            have hld : (L6.length : Int) = d := by rw [p2]
            rw [hld] at p1
            have l10 : w6.cell? ⟨S, 10, none⟩ = some (.int .i64 d) := by rw [cell_of_row w6 S 10 _ 36 (0, 0) p1.hS]; exact p1.c10
            have hle := sesLen_any S d w6 l10
            have HLE := (show Hid _ from hle)
            have HB6 : Hid (Below w.heap.size w w6) := HB5.out.trans p7
            clear p1 p2 p3 p4 p5 p6 p7 p8 hld l10 hle HRE
            go_wp2_with fail
            refine Calls.mono HLE.out ?_
            rintro e w' ⟨rfl, hw'⟩
            subst w'
            clear HLE
            go_wp2_with fail
            go_ret
            exact ⟨by simp, HB6.out⟩
        · have h2I : ¬ (n0 : Int) = n1 := by omega
          have h2b : ((n0 : Int) == n1) = false := by simp; omega
          go_wp2_with fail
          go_ret
          exact ⟨rfl, HR0.out⟩
end Go.Proofs.Qxb6613550a
