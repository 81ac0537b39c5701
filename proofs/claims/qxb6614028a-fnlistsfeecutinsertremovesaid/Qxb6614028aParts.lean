import Derived.Test.Qxb6614028aRows
import Derived.WalkKit
import Derived.WalkSpells
import Derived.WalkLawsBesides
import Derived.RowKit3
import Derived.Below
namespace Go.Proofs.Qxb6614028a
open Go.RowKit

/-- The five cells of a Fee: her name, the zero rate, her class. -/
def feeCells (f : ByteArray × ByteArray) : List Value := [.string f.1, .int .i64 0, .int .i32 0, .pointer none, .string f.2]
def fee (f : ByteArray × ByteArray) : Value := .agg #[.string f.1, .int .i64 0, .int .i32 0, .pointer none, .string f.2]
/-- The cells of a row of Fees. -/
def feesCells (fs : List (ByteArray × ByteArray)) : List Value := fs.flatMap feeCells

theorem feesCells_length (fs : List (ByteArray × ByteArray)) : (feesCells fs).length = fs.length * 5 := by
  induction fs with
  | nil => rfl
  | cons f fs ih => simp only [feesCells, List.flatMap_cons, List.length_append] at ih ⊢; rw [ih]; simp [feeCells]; omega
theorem feesCells_snoc (fs : List (ByteArray × ByteArray)) (f : ByteArray × ByteArray) : feesCells (fs ++ [f]) = feesCells fs ++ feeCells f := by
  simp [feesCells]
theorem feesCells_get (fs : List (ByteArray × ByteArray)) (k j : Nat) (hk : k < fs.length) (hj : j < 5) : (feesCells fs)[k * 5 + j]? = (feeCells (fs[k]))[j]? := by
  induction fs generalizing k with
  | nil => simp at hk
  | cons f fs ih =>
    have e : feesCells (f :: fs) = feeCells f ++ feesCells fs := rfl
    rw [e]
    cases k with
    | zero => rw [List.getElem?_append_left (by simp [feeCells]; omega)]; simp
    | succ k =>
      rw [List.getElem?_append_right (by simp [feeCells]; omega)]
      have := ih k (by simpa using hk)
      simp only [feeCells, List.length_cons, List.length_nil] at this ⊢
      rw [show (k + 1) * 5 + j - (0 + 1 + 1 + 1 + 1 + 1) = k * 5 + j from by omega]
      simpa using this

/-- The k-th string. -/
def nth (ss : List ByteArray) (k : Nat) : ByteArray := ss.getD k ByteArray.empty

/-- A slice of strings as the walk is told of it: its elements ss; each element's address, and the cell there. -/
def Strs (w : World) (v : Value) (len : Nat) (ss : List ByteArray) : Prop :=
  (∃ a cap, v = .slice a len cap) ∧ ss.length = len ∧ len ≤ maxLen ∧ (∀ s ∈ ss, s.size ≤ maxLen) ∧
  ∀ i, i < len → ∃ x : Addr, (∀ w', (Instr.indexAt 22 v (.int .i64 i)).run Try.prog w' = .ok (.pointer (some x)) w') ∧ x.block < w.heap.size ∧ w.cell? x = some (.string (nth ss i))

theorem Strs.below {B : Nat} {w w' : World} {v : Value} {len : Nat} {ss : List ByteArray} (h : Strs w v len ss) (hb : Below B w w') (hB : w.heap.size ≤ B) : Strs w' v len ss := by
  refine ⟨h.1, h.2.1, h.2.2.1, h.2.2.2.1, fun i hi => ?_⟩
  obtain ⟨x, h1, h2, h3⟩ := h.2.2.2.2 i hi
  exact ⟨x, h1, Nat.lt_of_lt_of_le h2 hb.size, by rw [hb.cell (by omega)]; exact h3⟩

/-- zzFeeAt: the i-th fee; one new block. -/
theorem feeAt_any (v0 v1 : Value) (n0 n1 : Nat) (s0 s1 : List ByteArray) (i : Int) (w : World) (h0 : Strs w v0 n0 s0) (h1 : Strs w v1 n1 s1) (hi0 : 0 ≤ i) (hi : i < n0) :
    Calls Try.prog 6 #[v0, v1, .int .i64 i] w fun e w' => ∃ c, e = .returned (fee (nth s0 i.toNat, c)) ∧ ∃ o, w' = w.alloc (.cells o 34) := by
  obtain ⟨k, rfl⟩ := Int.eq_ofNat_of_zero_le hi0
  obtain ⟨⟨a0, cap0, rfl⟩, l0, m0, z0, g0⟩ := h0
  obtain ⟨⟨a1, cap1, rfl⟩, l1, m1, z1, g1⟩ := h1
  unfold maxLen at m0 m1
  obtain ⟨x0, r0, b0, c0⟩ := g0 k (by omega)
  by_cases hc : (k : Int) < n1
  · obtain ⟨x1, r1, b1, c1⟩ := g1 k (by omega)
    go_enter Try.func6, Try.ntmps6
    go_wp2
    exact bodyPost_ret (v := fee (nth s0 k, nth s1 k)) (by simp [results, Try.results6, go_sem, fee]) rfl ⟨nth s1 k, rfl, _, rfl⟩
  · go_enter Try.func6, Try.ntmps6
    go_wp2
    exact bodyPost_ret (v := fee (nth s0 k, ⟨#[]⟩)) (by simp [results, Try.results6, go_sem, fee]) rfl ⟨⟨(⟨#[]⟩ : ByteArray), rfl⟩, _, rfl⟩

/-- The closure of ListsFee: is the fee's name the captured one? -/
theorem same_any (f : ByteArray × ByteArray) (a : Addr) (nm : ByteArray) (w : World) (ha : a.block < w.heap.size) (hc : w.cell? a = some (.string nm)) :
    Calls Try.prog 9 #[fee f, .pointer (some a)] w fun e w' => e = .returned (.bool (f.1.toList == nm.toList)) ∧ ∃ o, w' = w.alloc (.cells o 34) := by
  unfold fee
  go_enter Try.func9, Try.ntmps9
  go_wp2
  go_ret
  exact ⟨rfl, _, rfl⟩

/-- Is nm among these names? -/
def has (ns : List ByteArray) (nm : ByteArray) : Bool := ns.any fun s => s.toList == nm.toList
theorem has_append (a b : List ByteArray) (nm : ByteArray) : has (a ++ b) nm = (has a nm || has b nm) := by simp [has]
theorem has_take_succ (ns : List ByteArray) (nm : ByteArray) (k : Nat) (h : k < ns.length) : has (ns.take (k + 1)) nm = (has (ns.take k) nm || (ns[k].toList == nm.toList)) := by
  rw [List.take_succ_eq_append_getElem h, has_append]; simp [has]

theorem ownsRow_below {B : Nat} {w w' : World} {base : Nat} {e : TypeId} {size : Nat} {v : Value} {n : Nat} {xs : List Value} (h : w.ownsRow base e size v n xs) (hb : Below B w w') (hlt : ∀ k, v.ownBlock = some k → k < B) : w'.ownsRow base e size v n xs := by
  refine ⟨h.1, ?_⟩
  rcases h.2 with hn | ⟨g, cap, cur, rfl, hbs, hgg, rest⟩
  · exact .inl hn
  · refine .inr ⟨g, cap, cur, rfl, hbs, ?_, rest⟩
    rw [hb.block g (hlt g rfl)]
    exact hgg

/-- slices.IndexFunc over a row of fees. -/
theorem index_any (base g n cap : Nat) (fs : List (ByteArray × ByteArray)) (a : Addr) (nm : ByteArray) (w : World) (hn : n = fs.length) (ha : a.block < w.heap.size) (hc : w.cell? a = some (.string nm))
    (hown : w.ownsRow base 34 5 (.slice (some ⟨g, 0, none⟩) n cap) n (feesCells fs)) (hm : n ≤ 100000) :
    Calls Try.prog 10 #[.slice (some ⟨g, 0, none⟩) n cap, .func (.func 9) #[] #[.pointer (some a)]] w fun e w' =>
      ∃ r : Int, e = .returned (.int .i64 r) ∧ decide (0 ≤ r) = has (fs.map Prod.fst) nm ∧ Below w.heap.size w w' := by
  have hg := (hown.lt g rfl).2
  have HN : Hid (n = fs.length) := hn
  clear hn
  go_enter Try.func10, Try.ntmps10
  go_wp2
  go_loopw [8] (fun i wr => ∃ k : Nat, k ≤ n ∧ i = .int .i64 k ∧ has ((fs.map Prod.fst).take k) nm = false ∧ Below w.heap.size w wr) (fun i _ => n - (intOf i).toNat)
  case atStart => exact ⟨0, Nat.zero_le _, rfl, by simp [has], Below.refl _ _⟩
  case round =>
    obtain ⟨k, hk, rfl, hno, hb⟩ := hrel
    have hca : wr.cell? a = some (.string nm) := by rw [hb.cell ha]; exact hc
    have hal : a.block < wr.heap.size := Nat.lt_of_lt_of_le ha hb.size
    by_cases hlt : k < n
    · have hkl : k < fs.length := by have := HN.out; omega
      have hcell : ∀ j, j < 5 → wr.cell? ⟨g, k * 5 + j, none⟩ = (feeCells (fs[k]'hkl))[j]? := by
        intro j hj
        rw [hb.cell (p := ⟨g, k * 5 + j, none⟩) hg, hown.cellAt _ (by omega), feesCells_get fs k j hkl hj]
      obtain ⟨f, hf⟩ : ∃ f, f = fs[k]'hkl := ⟨_, rfl⟩
      rw [← hf] at hcell
      have HF : Hid (f = fs[k]'hkl) := hf
      clear hf
      have c0 : wr.cell? ⟨g, k * 5, none⟩ = some (.string f.1) := hcell 0 (by omega)
      have c1 : wr.cell? ⟨g, k * 5 + 1, none⟩ = some (.int .i64 0) := hcell 1 (by omega)
      have c2 : wr.cell? ⟨g, k * 5 + 2, none⟩ = some (.int .i32 0) := hcell 2 (by omega)
      have c3 : wr.cell? ⟨g, k * 5 + 3, none⟩ = some (.pointer none) := hcell 3 (by omega)
      have c4 : wr.cell? ⟨g, k * 5 + 4, none⟩ = some (.string f.2) := hcell 4 (by omega)
      clear hcell
      have hsucc := has_take_succ (fs.map Prod.fst) nm k (by simpa using hkl)
      rw [hno, Bool.false_or, List.getElem_map, ← HF.out] at hsucc
      have HS : Hid (has ((fs.map Prod.fst).take (k + 1)) nm = (f.1.toList == nm.toList)) := hsucc
      clear hsucc
      have hgen : fee f = .agg #[.string f.1, .int .i64 0, .int .i32 0, .pointer none, .string f.2] := rfl
      by_cases heq : (f.1.toList == nm.toList) = true
      · go_wp2_with fail
        rw [← hgen]
        refine (same_any f a nm wr hal hca).mono ?_
        rintro e w' ⟨rfl, o, rfl⟩
        rw [heq]
        go_wp2
        go_ret
        refine ⟨k, rfl, ?_, hb.alloc hb.size _⟩
        have h1 := HS.out
        rw [heq] at h1
        have h2 : has (fs.map Prod.fst) nm = true := by
          have : fs.map Prod.fst = (fs.map Prod.fst).take (k + 1) ++ (fs.map Prod.fst).drop (k + 1) := by simp
          rw [this, has_append, h1]; rfl
        rw [h2]; simp
      · have heq' : (f.1.toList == nm.toList) = false := by simpa using heq
        go_wp2_with fail
        rw [← hgen]
        refine (same_any f a nm wr hal hca).mono ?_
        rintro e w' ⟨rfl, o, rfl⟩
        rw [heq']
        go_wp2
        go_roundw
        case rel => exact ⟨k + 1, by omega, by go_num, by rw [HS.out]; exact heq', hb.alloc hb.size _⟩
        case measure => simp [intOf]; omega
    · have hfin : has (fs.map Prod.fst) nm = false := by
        rw [List.take_of_length_le (by have := HN.out; simp; omega)] at hno; exact hno
      go_wp2
      go_ret
      exact ⟨-1, rfl, by rw [hfin]; rfl, hb⟩
end Go.Proofs.Qxb6614028a
