/-
  node.ascend: all cases.
-/
import Derived.Test.Qxb6613550aAscZ
import Derived.Test.Qxb6613550aAscN
import Derived.Test.Qxb6613550aAscS
namespace Go.Proofs.Qxb6613550a
open Go.RowKit Go.Shelf
set_option linter.unusedVariables false

theorem asc_any (l N B : Nat) (σ : Sto) (J Jx : List SE → World → Prop) (hY : YieldsOk l N J Jx) (hJg : ∀ pre (W W' : World), J pre W → W.grownBy W' none → J pre W') :
    ∀ (h b n : Nat) (fp : Option Addr) (pre : List SE) (W : World), Inv B W σ → WF σ h b → Srt (cont σ h b) → (∀ e ∈ cont σ h b, OkE e) → (fp = none ∨ ∃ x key, fp = some x ∧ W.cell? x = some (.int .u64 key)) → J pre W → pre.length + (cont σ h b).length ≤ N →
    CallsIn Fence.wide n Try.prog 55 #[.pointer (some ⟨b, 0, none⟩), .pointer fp, .func (.yield l) #[] #[]] W (AscPost J Jx pre (cont σ h b).length W) := by
  intro h
  induction h with
  | zero => exact asc_zero l N B σ J Jx hY hJg
  | succ g ih =>
    intro b n fp pre W hI hw hs hok hfp hJ hN
    rcases hfp with rfl | ⟨x, key, rfl, hx⟩
    · exact asc_succ_none l N B σ J Jx hY hJg g ih b n pre W hI hw hs hok hJ hN
    · exact asc_succ_some l N B σ J Jx hY hJg g ih b n x key pre W hI hw hs hok hx hJ hN
end Go.Proofs.Qxb6613550a
