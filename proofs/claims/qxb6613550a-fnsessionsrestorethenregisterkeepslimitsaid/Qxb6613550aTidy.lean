/-
  Sessions.tidy.
-/
import Derived.Test.Qxb6613550aReg
import Derived.Test.Qxb6613550aRein
namespace Go.Proofs.Qxb6613550a
open Go.RowKit Go.Maps
set_option linter.unusedVariables false

theorem tidy_ok (S : Nat) : TidyOk S := by
  intro B M m σ L D u o cur w hs hL hm ho hoL h5 h9
  have hsw := sweep_any B S M m σ L D u o cur w hs hL hm (by omega) hoL
  have HSW := (show Hid _ from hsw)
  have HX : Hid (cur[5]? = some (.map none) ∧ ∃ fl, cur[9]? = some (.int .u64 fl)) := ⟨h5, h9⟩
  have HBw : Hid (B ≤ w.heap.size) := hs.hB
  clear hsw hs h5 h9
  go_enter Try.func20, Try.ntmps20
  go_wp2_with fail
  refine Calls.mono HSW.out ?_
  rintro e w1 ⟨rfl, len, g1, g2, σ1, L1, m1, D1, cur1, p1, p2, p3, p4, p5⟩
  have hre := rein_any B S M m1 σ1 L1 D1 u o cur1 w1 p1 (by omega) (by intro e; rw [e] at p2; simp at p2; omega) (by rw [p5 5 (by omega)]; exact HX.out.1) (by rw [p5 9 (by omega)]; exact HX.out.2) (by omega) (by omega)
  have HRE := (show Hid _ from hre)
  have HK : Hid (KpM B S M w w1) := p4
  clear p1 p2 p3 p4 p5 HSW hre
  go_wp2_with fail
  refine Calls.mono HRE.out ?_
  rintro e w2 ⟨rfl, cur2, t1, t2, t3, t4, t5⟩
  have HF : Hid (∃ cur', w2.heap[S]? = some (.cells cur' 36 (0, 0)) ∧ cur'.size = 11 ∧ cur'[10]? = some (.int .i64 o) ∧ KpM B S M w w2) := ⟨cur2, t1, t2, t3, HK.out.trans ⟨t5, fun k ob k1 k2 k3 _ => by rw [t4 k (heap_lt k3) k1]; exact k3⟩⟩
  clear t1 t2 t3 t4 t5 HRE
  go_wp2_with fail
  go_end0
  exact ⟨rfl, HF.out⟩
end Go.Proofs.Qxb6613550a
