/-
  FnCompactInPlaceGivesCompactForm (6): the ways on which it returns at once.
-/
import Derived.Test.Qxb6000752aLawD
namespace Go.Proofs.Qxb6000752a
open Go.RowKit

set_option maxRecDepth 100000 in
set_option maxHeartbeats 1000000 in
theorem form_big (ka : Option Addr) (kl kc : Nat) (ta : Option Addr) (tl tc : Nat) (wa : Option Addr) (wl wq : Nat) (w : World) (h1 : kl ≤ 9223372036854775807) (h2 : tl ≤ 9223372036854775807) (h3 : wl ≤ 9223372036854775807) (hle : 1048576 < kl + tl + wl) :
    Calls Try.prog 6 #[.slice ka kl kc, .slice ta tl tc, .slice wa wl wq] w fun e w' => e = .returned (.bool true) ∧ Below w.heap.size w w' := by
  by_cases a1 : 1048576 < kl
  · go_enter Try.func6, Try.ntmps6
    go_wp2
    go_ret
    exact ⟨rfl, Below.refl _ _⟩
  by_cases a2 : 1048576 < tl
  · go_enter Try.func6, Try.ntmps6
    go_wp2
    go_ret
    exact ⟨rfl, Below.refl _ _⟩
  by_cases a3 : 1048576 < kl + tl
  · go_enter Try.func6, Try.ntmps6
    go_wp2
    go_ret
    exact ⟨rfl, Below.refl _ _⟩
  by_cases a4 : 1048576 < wl
  · go_enter Try.func6, Try.ntmps6
    go_wp2
    go_ret
    exact ⟨rfl, Below.refl _ _⟩
  · go_enter Try.func6, Try.ntmps6
    go_wp2
    go_ret
    exact ⟨rfl, Below.refl _ _⟩

end Go.Proofs.Qxb6000752a
