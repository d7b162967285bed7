/-
  cloneWords (27) at whatever slice; maxInt (32).
-/
import Derived.Test.Qxb6000752aMem
import Derived.Test.Qxb6000752aZZ2
namespace Go.Proofs.Qxb6000752a
open Go.RowKit

theorem ownsRow_of_blk {k : IntKind} {e : TypeId} {w : World} {g : Nat} {xs : List Int} (base : Nat) (h : Blk k e w g xs) (hb : base ≤ g) (hm : xs.length ≤ maxLen) : w.ownsRow base e 1 (.slice (some ⟨g, 0, none⟩) xs.length xs.length) xs.length (xs.map (Value.int k)) :=
  ⟨by simp, .inr ⟨g, xs.length, _, rfl, hb, h, Nat.le_refl _, hm, by simp, by rw [List.take_of_length_le (by simp)]⟩⟩

/-- What a clone is: its cells, and that it is the call's own. -/
structure Cloned (w w' : World) (a : Option Addr) (base : Nat) (xs : List Int) : Prop where
  reads : Reads .u64 w' a w.heap.size 0 xs
  owns : w'.ownsRow base 37 1 (.slice a xs.length xs.length) xs.length (xs.map (Value.int .u64))
  lies : a = none ∨ a = some ⟨w.heap.size, 0, none⟩
  below : Below w.heap.size w w'
  new : a = some ⟨w.heap.size, 0, none⟩ → w.heap.size < w'.heap.size

theorem cloneWords_gen (a : Option Addr) (len cap b off base : Nat) (xs : List Int) (w : World) (hx : xs.length = len) (hr : len ≤ 1073741824) (hnil : a = none → len = 0 ∧ cap = 0) (hrd : Reads .u64 w a b off xs) (hbase : base ≤ w.heap.size) :
    Calls Try.prog 27 #[.slice a len cap] w fun e w' => ∃ a', e = .returned (.slice a' len len) ∧ Cloned w w' a' base xs := by
  cases a with
  | none =>
    obtain ⟨rfl, rfl⟩ := hnil rfl
    have hx0 : xs = [] := List.eq_nil_of_length_eq_zero hx
    subst hx0
    refine (cloneWords_nil w).mono ?_
    rintro e w' ⟨rfl, rfl⟩
    exact ⟨none, rfl, reads_nil _ _ _ _ _, World.ownsRow_nil _ _ _ _, .inl rfl, Below.refl _ _, fun h => by cases h⟩
  | some ad =>
    refine (cloneWords_any ad len cap b off xs w hx hr hrd).mono ?_
    rintro e w' ⟨rfl, hb, hbel⟩
    refine ⟨_, rfl, reads_blk_all hb, ?_, .inr rfl, hbel, fun _ => hb.lt⟩
    exact ownsRow_of_blk base hb hbase (by unfold maxLen; omega)

def maxi (a b : Int) : Int := if b < a then a else b
theorem ret_int2 {k : IntKind} {a b : Int} (h : a = b) : Ending.returned (.int k a) = .returned (.int k b) := by rw [h]
theorem maxInt_any (a b : Int) (w : World) : Calls Try.prog 32 #[.int .i64 a, .int .i64 b] w fun e w' => e = .returned (.int .i64 (maxi a b)) ∧ w' = w := by
  by_cases h : b < a
  · go_enter Try.func32, Try.ntmps32
    go_wp2
    go_ret
    exact ⟨ret_int2 (by unfold maxi; rw [if_pos h]), rfl⟩
  · go_enter Try.func32, Try.ntmps32
    go_wp2
    go_ret
    exact ⟨ret_int2 (by unfold maxi; rw [if_neg (by omega)]), rfl⟩

end Go.Proofs.Qxb6000752a
