/-
  What the walks ask of a slice of integers that came in, told once: its address where it is not empty, its cells.
-/
import Derived.WalkKit
import Derived.OpenShut
namespace Go.Proofs.Qxb6000752a
open Go.RowKit Go.ChangeShapes Go.WideShapes

theorem lt_of_cell {w : World} {a : Addr} {v : Value} (h : w.cell? a = some v) : a.block < w.heap.size := by
  cases hb : w.heap[a.block]? with
  | none => simp [World.cell?, hb] at h
  | some o => exact (Array.getElem?_eq_some_iff.1 hb).1

/-- A slice that came in: where it is not empty it leads to cells of a block that is there. -/
structure Came (k : IntKind) (w : World) (a : Option Addr) (len cap : Nat) (b off : Nat) (f : Nat → Int) : Prop where
  at_ : 0 < len → a = some ⟨b, off, none⟩
  old : 0 < len → b < w.heap.size
  cell : ∀ j, j < len → w.cell? ⟨b, off + j, none⟩ = some (.int k (f j))
  fits : ∀ j, j < len → (Lit.int k (f j)).wf = true
  room : len ≤ cap
  cap_ : cap ≤ 9223372036854775807
  nil : a = none → len = 0 ∧ cap = 0

theorem came_of_row {k : IntKind} {w : World} {a : Option Addr} {len cap : Nat} {zs : List Int}
    (h : (a = none ∧ len = 0 ∧ cap = 0 ∧ zs = []) ∨
      ∃ x, a = some x ∧ len ≤ cap ∧ cap ≤ maxLen ∧ zs.length = cap ∧ (∀ i, i < zs.length → w.cell? (x.add i) = some (.int k (zs.getD i 0))) ∧ ∀ n ∈ zs, (Lit.int k n).wf = true) :
    ∃ b off f, Came k w a len cap b off f := by
  rcases h with ⟨rfl, rfl, rfl, rfl⟩ | ⟨x, rfl, hl, hm, hz, hcell, hwz⟩
  · exact ⟨0, 0, fun _ => 0, fun h => by omega, fun h => by omega, fun j hj => by omega, fun j hj => by omega, by omega, by omega, fun _ => ⟨rfl, rfl⟩⟩
  · unfold maxLen at hm
    by_cases h0 : 0 < zs.length
    · obtain ⟨b, off, rfl, hc⟩ := ints_at hcell h0
      refine ⟨b, off, fun j => zs.getD j 0, fun _ => rfl, fun _ => lt_of_cell (hc 0 h0), fun j hj => hc j (by omega), fun j hj => ?_, hl, hm, fun h => by cases h⟩
      have hj' : j < zs.length := by omega
      have : zs.getD j 0 = zs[j] := by simp [List.getD, List.getElem?_eq_getElem hj']
      show (Lit.int k (zs.getD j 0)).wf = true
      rw [this]; exact hwz _ (List.getElem_mem hj')
    · exact ⟨0, 0, fun _ => 0, fun h => by omega, fun h => by omega, fun j hj => by omega, fun j hj => by omega, by omega, by omega, fun h => by cases h⟩

end Go.Proofs.Qxb6000752a
