/-
  The walk of kindBit (33).
-/
import Derived.Test.Qxb6000752aBits
namespace Go.Proofs.Qxb6000752a
open Go.RowKit

/-- The kind of the container at depth d. -/
def kbit (ok : Int) (K : List Int) (d : Nat) : Bool := if d < 64 then tb ok d else tb (K.getD (d / 64 - 1) 0) (d % 64)

theorem ret2_bool {a b c d : Bool} (h : a = b) (h' : c = d) : Ending.returned (.tuple #[.bool a, .bool c]) = .returned (.tuple #[.bool b, .bool d]) := by rw [h, h']

set_option maxHeartbeats 400000 in
theorem kindBit_low (d : Nat) (ok : Int) (v : Value) (w : World) (hd : d < 64) (ho : Word ok) :
    Calls Try.prog 33 #[.int .u64 ok, v, .int .i64 d] w fun e w' => e = .returned (.tuple #[.bool (tb ok d), .bool true]) ∧ w' = w := by
  have HO : Hid (Word ok) := ho
  clear ho
  go_enter Try.func33, Try.ntmps33
  go_wp2
  go_ret2
  exact ⟨ret2_bool (get_bit ok d HO.out) rfl, rfl⟩

set_option maxHeartbeats 400000 in
theorem kindBit_high (d g kn kc : Nat) (ok x : Int) (w : World) (hd : 64 ≤ d) (hd2 : d ≤ 1000000000) (hn : d / 64 - 1 < kn) (_hkn : kn ≤ 1000000000) (hc : w.cell? ⟨g, d / 64 - 1, none⟩ = some (.int .u64 x)) (hx : Word x) :
    Calls Try.prog 33 #[.int .u64 ok, .slice (some ⟨g, 0, none⟩) kn kc, .int .i64 d] w fun e w' => e = .returned (.tuple #[.bool (tb x (d % 64)), .bool true]) ∧ w' = w := by
  have HX : Hid (Word x) := hx
  clear hx
  go_enter Try.func33, Try.ntmps33
  go_wp2
  go_ret2
  exact ⟨ret2_bool (get_bit x (d % 64) HX.out) rfl, rfl⟩

theorem kindBit_any (base d : Nat) (z : Sc) (K : List Int) (w : World) (hf : d < 64 ∨ d / 64 - 1 < z.kn) (hkn : z.kn ≤ 10000000) (hk : KOwn base w z K) (ho : Word z.ok) (hK : ∀ j, Word (K.getD j 0)) :
    Calls Try.prog 33 #[.int .u64 z.ok, .slice z.ka z.kn z.kc, .int .i64 d] w fun e w' => e = .returned (.tuple #[.bool (kbit z.ok K d), .bool true]) ∧ w' = w := by
  by_cases hd : d < 64
  · have := kindBit_low d z.ok (.slice z.ka z.kn z.kc) w hd ho
    unfold kbit; rw [if_pos hd]; exact this
  · have hn : d / 64 - 1 < z.kn := by
      rcases hf with h | h
      · omega
      · exact h
    obtain ⟨g, hg⟩ := hk.form (by omega)
    have := kindBit_high d g z.kn z.kc z.ok (K.getD (d / 64 - 1) 0) w (by omega) (by omega) hn (by omega) (hk.cell hg hn) (hK _)
    unfold kbit; rw [if_neg hd, hg]; exact this

end Go.Proofs.Qxb6000752a
