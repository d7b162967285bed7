/-
  FnBeginValueOpenSetsOnlyItsKindBit (9): the ways on which it returns at once; all together.
-/
import Derived.Test.Qxb6000752aLawG
namespace Go.Proofs.Qxb6000752a
open Go.RowKit

theorem openSets_big (a : Option Addr) (len cap : Nat) (dep ok deep : Int) (o : Bool) (w : World) (hlen : 131072 < len) :
    Calls Try.prog 9 #[.int .i64 dep, .int .u64 ok, .slice a len cap, .int .i64 deep, .bool o] w fun e w' => e = .returned (.bool true) ∧ Below w.heap.size w w' := by
  by_cases h : 1048576 < len
  · go_enter Try.func9, Try.ntmps9
    go_wp2
    go_ret
    exact ⟨rfl, Below.refl _ _⟩
  · go_enter Try.func9, Try.ntmps9
    go_wp2
    go_ret
    exact ⟨rfl, Below.refl _ _⟩
theorem openSets_neg (a : Option Addr) (len cap : Nat) (dep ok deep : Int) (o : Bool) (w : World) (hlen : len ≤ 131072) (hd : dep < 0) :
    Calls Try.prog 9 #[.int .i64 dep, .int .u64 ok, .slice a len cap, .int .i64 deep, .bool o] w fun e w' => e = .returned (.bool true) ∧ Below w.heap.size w w' := by
  go_enter Try.func9, Try.ntmps9
  go_wp2
  go_ret
  exact ⟨rfl, Below.refl _ _⟩
theorem openSets_far (a : Option Addr) (len cap : Nat) (dep ok deep : Int) (o : Bool) (w : World) (hlen : len ≤ 131072) (hd : 64 ≤ dep) (hd2 : dep ≤ 9223372036854775807) (hf : (len : Int) < dep / 64 - 1) :
    Calls Try.prog 9 #[.int .i64 dep, .int .u64 ok, .slice a len cap, .int .i64 deep, .bool o] w fun e w' => e = .returned (.bool true) ∧ Below w.heap.size w w' := by
  go_enter Try.func9, Try.ntmps9
  go_wp2
  go_ret
  exact ⟨rfl, Below.refl _ _⟩

theorem openSets_all (a : Option Addr) (len cap b off : Nat) (dep ok deep : Int) (o : Bool) (xs : List Int) (w : World) (hx : xs.length = len) (hdep : dep ≤ 9223372036854775807) (hok : Word ok) (hK : ∀ j, Word (xs.getD j 0))
    (hnil : a = none → len = 0 ∧ cap = 0) (hrd : Reads .u64 w a b off xs) :
    Calls Try.prog 9 #[.int .i64 dep, .int .u64 ok, .slice a len cap, .int .i64 deep, .bool o] w fun e w' => e = .returned (.bool true) ∧ Below w.heap.size w w' := by
  by_cases h1 : 131072 < len
  · exact openSets_big a len cap dep ok deep o w h1
  by_cases h2 : dep < 0
  · exact openSets_neg a len cap dep ok deep o w (by omega) h2
  by_cases h3 : 64 ≤ dep ∧ (len : Int) < dep / 64 - 1
  · exact openSets_far a len cap dep ok deep o w (by omega) h3.1 hdep h3.2
  obtain ⟨d, rfl⟩ : ∃ d : Nat, dep = (d : Int) := ⟨dep.toNat, by omega⟩
  by_cases h4 : d < 64
  · cases o
    · exact openSets_low_false a len cap b off d ok deep xs w hx (by omega) h4 hok hK hnil hrd
    · exact openSets_low_true a len cap b off d ok deep xs w hx (by omega) h4 hok hK hnil hrd
  by_cases h5 : d / 64 - 1 = len
  · cases o
    · exact openSets_grow_false a len cap b off d ok deep xs w hx (by omega) (by omega) h5 hok hK hnil hrd
    · exact openSets_grow_true a len cap b off d ok deep xs w hx (by omega) (by omega) h5 hok hK hnil hrd
  · cases o
    · exact openSets_mid_false a len cap b off d ok deep xs w hx (by omega) (by omega) (by omega) hok hK hnil hrd
    · exact openSets_mid_true a len cap b off d ok deep xs w hx (by omega) (by omega) (by omega) hok hK hnil hrd

end Go.Proofs.Qxb6000752a
