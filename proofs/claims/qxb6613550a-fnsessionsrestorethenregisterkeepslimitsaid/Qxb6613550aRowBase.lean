import Derived.Test.Qxb6613550aRows
import Derived.Test.Qxb6613550aRowLaws
import Derived.WalkKit
import Derived.WalkSpells
import Derived.WalkLawsBesides
import Derived.Deep.QuietTactic
import Derived.BigQuiet
import Derived.Deep.RegionLaw
import Derived.Lib.Overlaps
import Derived.Lib.SliceRun
namespace Go.Proofs.Qxb6613550a
open Go.RowKit

theorem take_splice (l : List Value) (k : Nat) (cs : List Value) (h : k ≤ l.length) : (splice l k cs).take k = l.take k := by
  unfold splice
  rw [List.take_append_of_le_length (by simp; omega), List.take_take, Nat.min_self]
theorem zeroCells_one (z : Array Value) (n : Nat) (h : ∀ v ∈ z.toList, v.oneCell' = true) : ∀ v ∈ (Builtin.zeroCells z n).toList, v.oneCell' = true := by
  intro v hv
  simp only [Builtin.zeroCells, Array.toList_map, List.mem_map, Array.toList_range, List.mem_range] at hv
  obtain ⟨j, hj, rfl⟩ := hv
  have h0 : 0 < z.size := by
    rcases Nat.eq_zero_or_pos z.size with h | h
    · rw [h] at hj; omega
    · exact h
  have hlt : j % z.size < z.size := Nat.mod_lt _ h0
  rw [getElem!_pos z _ hlt]
  exact h _ (by simp)

theorem grownBy_drewSetRow (w : World) (g : Nat) (cs : Array Value) : w.grownBy (w.drew.setRow g cs) (some g) :=
  ⟨rfl, rfl, rfl, by simp [World.setRow], fun k _ hk => setRow_other w.drew g k cs (fun e => hk (by rw [e]))⟩

theorem infoE : (Try.prog.info? 64).map (fun i => (i.zero, i.size, i.bytes)) = some (some (.agg #[.int .u64 0, .int .u64 0, .int .u64 0, .nilIface]), 4, 40) := by kernel_rfl
theorem zeroE (w : World) : (zeroValue 64).run Try.prog w = .ok (.agg #[.int .u64 0, .int .u64 0, .int .u64 0, .nilIface]) w := by kernel_rfl

theorem infoC : (Try.prog.info? 29).map (fun i => (i.zero, i.size, i.bytes)) = some (some (.pointer none), 1, 8) := by kernel_rfl
theorem zeroC (w : World) : (zeroValue 29).run Try.prog w = .ok (.pointer none) w := by kernel_rfl

end Go.Proofs.Qxb6613550a
