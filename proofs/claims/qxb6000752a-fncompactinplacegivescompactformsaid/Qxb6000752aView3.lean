/-
  The bounds of the numbers that a slice that came in holds.
-/
import Derived.Test.Qxb6000752aView2
namespace Go.Proofs.Qxb6000752a
open Go.RowKit Go.ChangeShapes Go.WideShapes

theorem held_past (f : Nat → Int) {n j : Nat} (h : ¬ j < n) : (held f n).getD j 0 = 0 := by simp [held, h]
theorem held_u8 {w : World} {a : Option Addr} {len cap b off : Nat} {f : Nat → Int} (h : Came .u8 w a len cap b off f) (j : Nat) : 0 ≤ (held f len).getD j 0 ∧ (held f len).getD j 0 ≤ 255 := by
  by_cases hj : j < len
  · rw [held_at f hj]; exact bounds_u8 (h.fits j hj)
  · rw [held_past f hj]; omega
theorem held_u64 {w : World} {a : Option Addr} {len cap b off : Nat} {f : Nat → Int} (h : Came .u64 w a len cap b off f) (j : Nat) : 0 ≤ (held f len).getD j 0 ∧ (held f len).getD j 0 ≤ 18446744073709551615 := by
  by_cases hj : j < len
  · rw [held_at f hj]; exact bounds_u64 (h.fits j hj)
  · rw [held_past f hj]; omega

end Go.Proofs.Qxb6000752a
