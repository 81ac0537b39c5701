import Derived.Test.Qxb6614028aCallees
import Derived.Test.Qxb6614028aBytes
namespace Go.Proofs.Qxb6614028a
open Go.RowKit

/-- The block of a contract that holds the fees v and nothing else. -/
def Box (w : World) (b : Nat) (v : Value) : Prop := w.heap[b]? = some (.cells #[.string ⟨#[]⟩, .int .i32 0, .slice none 0 0, .map none, v, .slice none 0 0, .string ⟨#[]⟩] 29 (0, 0))

theorem Box.lt {w : World} {b : Nat} {v : Value} (h : Box w b v) : b < w.heap.size := (Array.getElem?_eq_some_iff.1 h).1
theorem Box.new (w : World) (v : Value) : Box (w.alloc (.cells #[.string ⟨#[]⟩, .int .i32 0, .slice none 0 0, .map none, v, .slice none 0 0, .string ⟨#[]⟩] 29)) w.heap.size v := heap_alloc_new w _
theorem Box.below {B : Nat} {w w' : World} {b : Nat} {v : Value} (h : Box w b v) (hb : Below B w w') (hB : b < B) : Box w' b v := by
  unfold Box; rw [hb.block b hB]; exact h
theorem Box.load {w : World} {b g n cap : Nat} (h : Box w b (.slice (some ⟨g, 0, none⟩) n cap)) : (Instr.loadAt 29 (.pointer (some ⟨b, 0, none⟩))).run Try.prog w = .ok (contract (.slice (some ⟨g, 0, none⟩) n cap)) w := by
  have c : ∀ j, w.cell? ⟨b, j, none⟩ = (#[.string ⟨#[]⟩, .int .i32 0, .slice none 0 0, .map none, .slice (some ⟨g, 0, none⟩) n cap, .slice none 0 0, .string ⟨#[]⟩] : Array Value)[j]? := fun j => cell_of_row w b j _ 29 (0, 0) h
  have c0 := c 0; have c1 := c 1; have c2 := c 2; have c3 := c 3; have c4 := c 4; have c5 := c 5; have c6 := c 6
  simp at c0 c1 c2 c3 c4 c5 c6
  unfold contract
  go_simp

theorem Box.cells {w : World} {b : Nat} {v : Value} (h : Box w b v) : w.cell? ⟨b, 0, none⟩ = some (.string ⟨#[]⟩) ∧ w.cell? ⟨b, 1, none⟩ = some (.int .i32 0) ∧ w.cell? ⟨b, 2, none⟩ = some (.slice none 0 0) ∧ w.cell? ⟨b, 3, none⟩ = some (.map none) ∧
    w.cell? ⟨b, 4, none⟩ = some v ∧ w.cell? ⟨b, 5, none⟩ = some (.slice none 0 0) ∧ w.cell? ⟨b, 6, none⟩ = some (.string ⟨#[]⟩) := by
  have c : ∀ j, w.cell? ⟨b, j, none⟩ = (#[.string ⟨#[]⟩, .int .i32 0, .slice none 0 0, .map none, v, .slice none 0 0, .string ⟨#[]⟩] : Array Value)[j]? := fun j => cell_of_row w b j _ 29 (0, 0) h
  exact ⟨c 0, c 1, c 2, c 3, c 4, c 5, c 6⟩

theorem ownsRow_base {w : World} {base base' : Nat} {e : TypeId} {size : Nat} {v : Value} {n : Nat} {xs : List Value} (h : w.ownsRow base e size v n xs) (hb : base' ≤ base) : w.ownsRow base' e size v n xs := by
  refine ⟨h.1, ?_⟩
  rcases h.2 with hn | ⟨g, cap, cur, rfl, hbs, rest⟩
  · exact .inl hn
  · exact .inr ⟨g, cap, cur, rfl, by omega, rest⟩

/-- A contract at block b whose fees fs lie in the row at block g. -/
structure Held (w : World) (b g n cap : Nat) (fs : List (ByteArray × ByteArray)) : Prop where
  box : Box w b (.slice (some ⟨g, 0, none⟩) n cap)
  len : n = fs.length
  small : n ≤ 100000
  own : w.ownsRow 0 34 5 (.slice (some ⟨g, 0, none⟩) n cap) n (feesCells fs)

theorem Held.below {B : Nat} {w w' : World} {b g n cap : Nat} {fs : List (ByteArray × ByteArray)} (h : Held w b g n cap fs) (hb : Below B w w') (hB : w.heap.size ≤ B) : Held w' b g n cap fs :=
  ⟨h.box.below hb (Nat.lt_of_lt_of_le h.box.lt hB), h.len, h.small, ownsRow_below h.own hb (fun k hk => Nat.lt_of_lt_of_le (h.own.lt k hk).2 hB)⟩

/-- A load, by an equation on its run. -/
theorem wpList_load_by {P : Program} (w : World) {ops : Array Oper} {rest : List Oper} {o : Oper} {a : Act} {Q : Exit → Act → World → Prop}
    (hg : o.guard = none) (x : Operand) (t : TypeId) (hop : o.op = Op.load t x) (p v : Value) (hx : a.eval x = p) (hrun : (Instr.loadAt t p).run P w = .ok v w)
    (hK : wpList P ops Q rest (a.put o.dst v) w) : wpList P ops Q (o :: rest) a w := by
  refine wpList_plain hg fun K hK' => ?_
  unfold Oper.wp
  simp [execOp, hop, hx, hrun, Result.andThen]
  exact hK' _ _ hK
end Go.Proofs.Qxb6614028a
