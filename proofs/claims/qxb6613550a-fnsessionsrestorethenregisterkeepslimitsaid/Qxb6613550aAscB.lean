/-
  node.ascend: words and small laws for the walk.
-/
import Derived.Test.Qxb6613550aAsc
namespace Go.Proofs.Qxb6613550a
open Go.RowKit Go.Shelf
set_option linter.unusedVariables false
attribute [local go_sem] Oper.semAt_some

/-- The loop body's word. -/
def YieldsOk (l N : Nat) (J Jx : List SE → World → Prop) : Prop :=
  ∀ m pre x W, J pre W → pre.length < N → YieldAt Fence.wide m Try.prog l (encE x) W fun e W' =>
    (e = .returned (.bool true) ∧ J (pre ++ [x]) W' ∧ Kq W W') ∨ (e = .returned (.bool false) ∧ Jx (pre ++ [x]) W')

def AscPost (J Jx : List SE → World → Prop) (pre : List SE) (n : Nat) (W : World) (e : Ending) (W' : World) : Prop :=
  (e = .returned (.bool true) ∧ (∃ q : List SE, q.length ≤ n ∧ J (pre ++ q) W') ∧ Kq W W') ∨ (e = .returned (.bool false) ∧ ∃ q, Jx (pre ++ q) W')

def YO (J Jx : List SE → World → Prop) (pre : List SE) (x : SE) (W : World) (ok : Bool) (W' : World) : Prop :=
  (ok = true ∧ J (pre ++ [x]) W' ∧ Kq W W') ∨ (ok = false ∧ Jx (pre ++ [x]) W')
theorem yo_of {J Jx : List SE → World → Prop} {pre : List SE} {x : SE} {W W' : World} {e : Ending} (h : (e = .returned (.bool true) ∧ J (pre ++ [x]) W' ∧ Kq W W') ∨ (e = .returned (.bool false) ∧ Jx (pre ++ [x]) W')) :
    ∃ ok : Bool, e = .returned (.bool ok) ∧ Hid (YO J Jx pre x W ok W') := by
  rcases h with ⟨rfl, h1, h2⟩ | ⟨rfl, h1⟩
  · exact ⟨true, rfl, .inl ⟨rfl, h1, h2⟩⟩
  · exact ⟨false, rfl, .inr ⟨rfl, h1⟩⟩

/-- search, what ascend asks of it. -/
theorem search_le (B b : Nat) (nd : ND) (k : Int) (w : World) (h : NodeAt B w b nd) (hs : Srt nd.es) :
    Calls Try.prog 24 #[.pointer (some ⟨b, 0, none⟩), .int .u64 k] w fun e w' => ∃ (r : Nat) (fd : Bool), e = .returned (.tuple #[.int .i64 r, .bool fd]) ∧ r ≤ nd.es.length ∧ ∃ n, w' = w.drewN n := by
  rcases Nat.eq_zero_or_pos nd.es.length with h0 | h0
  · refine Calls.mono (search_none B b nd k w h (List.length_eq_zero_iff.1 h0)) ?_
    rintro e w' ⟨rfl, hn⟩
    exact ⟨0, false, rfl, by omega, hn⟩
  · refine Calls.mono (search_any B b nd k w h hs h0) ?_
    rintro e w' ⟨r, rfl, hc, hn⟩
    exact ⟨r, _, rfl, hc.le, hn⟩

/-- A drawn region's ways meet again: one frame for each answer. -/
def EndEx (A : Bool → Act) (X : Bool → World → Prop) : Exit → Act → World → Prop
  | .normal, a, w => ∃ ok, a = A ok ∧ X ok w
  | _, _, _ => False
theorem wpIn_region_ex {F : Fence} {n : Nat} {P : Program} {id : Nat} {ops : Array Oper} {b : Bool} {Q : Exit → Act → World → Prop} {a : Act} {w : World} (A : Bool → Act) (X : Bool → World → Prop)
    (h : (Code.region id ops b).wpIn F n P (EndEx A X) a w) (k : ∀ ok W2, X ok W2 → Q .normal (A ok) W2) : (Code.region id ops b).wpIn F n P Q a w :=
  wpIn_mono h (fun e a' w' h' => by cases e <;> first | exact (h' : False).elim | (obtain ⟨ok, rfl, hx⟩ := h'; exact k ok _ hx))

theorem grown_drew (W : World) : W.grownBy W.drew none := ⟨rfl, rfl, rfl, Nat.le_refl _, fun _ _ _ => rfl⟩
theorem grown_drewN (W : World) (n : Nat) : W.grownBy (W.drewN n) none := ⟨rfl, rfl, rfl, Nat.le_refl _, fun _ _ _ => rfl⟩

end Go.Proofs.Qxb6613550a
