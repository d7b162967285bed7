/-
  From what is told of a slice that came in to the list that it holds.
-/
import Derived.Test.Qxb6000752aView
import Derived.Test.Qxb6000752aBlk
namespace Go.Proofs.Qxb6000752a
open Go.RowKit

def held (f : Nat → Int) (n : Nat) : List Int := (List.range n).map f
theorem held_len (f : Nat → Int) (n : Nat) : (held f n).length = n := by simp [held]
theorem held_at (f : Nat → Int) {n j : Nat} (h : j < n) : (held f n).getD j 0 = f j := by simp [held, h]
theorem reads_of_came {k : IntKind} {w : World} {a : Option Addr} {len cap b off : Nat} {f : Nat → Int} (h : Came k w a len cap b off f) : Reads k w a b off (held f len) :=
  ⟨fun h0 => h.at_ (by rw [held_len] at h0; exact h0), fun j hj => by rw [held_len] at hj; rw [held_at f hj]; exact h.cell j hj⟩

end Go.Proofs.Qxb6000752a
