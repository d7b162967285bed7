/-
  FnBeginValueAcceptsExactlyValueStarts (8): the ways on which it returns at once; all together.
-/
import Derived.Test.Qxb6000752aAccB
import Derived.Test.Qxb6000752aAccC
namespace Go.Proofs.Qxb6000752a
open Go.RowKit

set_option maxRecDepth 100000 in
theorem acc_big (a : Option Addr) (len cap : Nat) (st dep ok mem deep pl c : Int) (w : World) (hlen : 131072 < len) :
    Calls Try.prog 8 #[.int .u8 st, .int .i64 dep, .int .u64 ok, .slice a len cap, .int .i64 mem, .int .i64 deep, .int .i64 pl, .int .u8 c] w fun e w' => e = .returned (.bool true) ∧ Below w.heap.size w w' := by
  by_cases h : 1048576 < len
  · go_enter Try.func8, Try.ntmps8
    go_wp2
    go_ret
    exact ⟨rfl, Below.refl _ _⟩
  · go_enter Try.func8, Try.ntmps8
    go_wp2
    go_ret
    exact ⟨rfl, Below.refl _ _⟩
set_option maxRecDepth 100000 in
theorem acc_neg (a : Option Addr) (len cap : Nat) (st dep ok mem deep pl c : Int) (w : World) (hlen : len ≤ 131072) (hd : dep < 0) :
    Calls Try.prog 8 #[.int .u8 st, .int .i64 dep, .int .u64 ok, .slice a len cap, .int .i64 mem, .int .i64 deep, .int .i64 pl, .int .u8 c] w fun e w' => e = .returned (.bool true) ∧ Below w.heap.size w w' := by
  go_enter Try.func8, Try.ntmps8
  go_wp2
  go_ret
  exact ⟨rfl, Below.refl _ _⟩
set_option maxRecDepth 100000 in
theorem acc_far (a : Option Addr) (len cap : Nat) (st dep ok mem deep pl c : Int) (w : World) (hlen : len ≤ 131072) (hd : 64 ≤ dep) (hd2 : dep ≤ 9223372036854775807) (hf : (len : Int) < dep / 64 - 1) :
    Calls Try.prog 8 #[.int .u8 st, .int .i64 dep, .int .u64 ok, .slice a len cap, .int .i64 mem, .int .i64 deep, .int .i64 pl, .int .u8 c] w fun e w' => e = .returned (.bool true) ∧ Below w.heap.size w w' := by
  go_enter Try.func8, Try.ntmps8
  go_wp2
  go_ret
  exact ⟨rfl, Below.refl _ _⟩

theorem acc_all (a : Option Addr) (len cap b off : Nat) (st dep ok mem deep pl c : Int) (xs : List Int) (w : World) (hx : xs.length = len) (hdep : dep ≤ 9223372036854775807) (hc0 : 0 ≤ c) (hc1 : c ≤ 255)
    (hnil : a = none → len = 0 ∧ cap = 0) (hrd : Reads .u64 w a b off xs) :
    Calls Try.prog 8 #[.int .u8 st, .int .i64 dep, .int .u64 ok, .slice a len cap, .int .i64 mem, .int .i64 deep, .int .i64 pl, .int .u8 c] w fun e w' => e = .returned (.bool true) ∧ Below w.heap.size w w' := by
  by_cases h1 : 131072 < len
  · exact acc_big a len cap st dep ok mem deep pl c w h1
  by_cases h2 : dep < 0
  · exact acc_neg a len cap st dep ok mem deep pl c w (by omega) h2
  by_cases h3 : 64 ≤ dep ∧ (len : Int) < dep / 64 - 1
  · exact acc_far a len cap st dep ok mem deep pl c w (by omega) h3.1 hdep h3.2
  obtain ⟨d, rfl⟩ : ∃ d : Nat, dep = (d : Int) := ⟨dep.toNat, by omega⟩
  have hf : Fits d len := by unfold Fits; omega
  have hd2 : d ≤ 100000000 := by omega
  have hl : len ≤ 131072 := by omega
  by_cases hd1 : d = 1
  · subst hd1
    by_cases e123 : c = 123
    · subst e123; exact acc_o_one a len cap b off st ok mem deep pl xs w hx hl hf hnil hrd
    by_cases e91 : c = 91
    · subst e91; exact acc_a_one a len cap b off st ok mem deep pl xs w hx hl hf hnil hrd
    by_cases e34 : c = 34
    · subst e34; exact acc_q_one a len cap b off st ok mem deep pl xs w hx hl hnil hrd
    by_cases e45 : c = 45
    · subst e45; exact acc_m_one a len cap b off st ok mem deep pl xs w hx hl hnil hrd
    by_cases e48 : c = 48
    · subst e48; exact acc_z_one a len cap b off st ok mem deep pl xs w hx hl hnil hrd
    by_cases e116 : c = 116
    · subst e116; exact acc_t_one a len cap b off st ok mem deep pl xs w hx hl hnil hrd
    by_cases e102 : c = 102
    · subst e102; exact acc_f_one a len cap b off st ok mem deep pl xs w hx hl hnil hrd
    by_cases e110 : c = 110
    · subst e110; exact acc_n_one a len cap b off st ok mem deep pl xs w hx hl hnil hrd
    by_cases eg : 49 ≤ c ∧ c ≤ 57
    · exact acc_d_one a len cap b off st ok mem deep pl c xs w hx hl eg.1 eg.2 hnil hrd
    · exact acc_x_one a len cap b off st ok mem deep pl c xs w hx hl hc0 hc1 (by unfold vstart; omega) e34 hnil hrd
  · by_cases e123 : c = 123
    · subst e123; exact acc_o_not a len cap b off d st ok mem deep pl xs w hx hl hf hd2 hd1 hnil hrd
    by_cases e91 : c = 91
    · subst e91; exact acc_a_not a len cap b off d st ok mem deep pl xs w hx hl hf hd2 hd1 hnil hrd
    by_cases e34 : c = 34
    · subst e34; exact acc_q_not a len cap b off d st ok mem deep pl xs w hx hl hf hd2 hd1 hnil hrd
    by_cases e45 : c = 45
    · subst e45; exact acc_m_not a len cap b off d st ok mem deep pl xs w hx hl hf hd2 hd1 hnil hrd
    by_cases e48 : c = 48
    · subst e48; exact acc_z_not a len cap b off d st ok mem deep pl xs w hx hl hf hd2 hd1 hnil hrd
    by_cases e116 : c = 116
    · subst e116; exact acc_t_not a len cap b off d st ok mem deep pl xs w hx hl hf hd2 hd1 hnil hrd
    by_cases e102 : c = 102
    · subst e102; exact acc_f_not a len cap b off d st ok mem deep pl xs w hx hl hf hd2 hd1 hnil hrd
    by_cases e110 : c = 110
    · subst e110; exact acc_n_not a len cap b off d st ok mem deep pl xs w hx hl hf hd2 hd1 hnil hrd
    by_cases eg : 49 ≤ c ∧ c ≤ 57
    · exact acc_d_not a len cap b off d st ok mem deep pl c xs w hx hl hf hd2 hd1 eg.1 eg.2 hnil hrd
    · exact acc_x_not a len cap b off d st ok mem deep pl c xs w hx hl hf hd2 hd1 hc0 hc1 (by unfold vstart; omega) e34 hnil hrd

end Go.Proofs.Qxb6000752a
