/-
  The walk of FnBeginValueAcceptsExactlyValueStarts (8): a quote, a number.
-/
import Derived.Test.Qxb6000752aAccA
namespace Go.Proofs.Qxb6000752a
open Go.RowKit

set_option maxHeartbeats 2000000 in
set_option maxRecDepth 100000 in
theorem acc_q_one (a : Option Addr) (len cap b off : Nat) (st ok mem deep pl : Int) (xs : List Int) (w : World) (hx : xs.length = len) (hlen : len ≤ 131072)  
    (hnil : a = none → len = 0 ∧ cap = 0) (hrd : Reads .u64 w a b off xs) :
    Calls Try.prog 8 #[.int .u8 st, .int .i64 1, .int .u64 ok, .slice a len cap, .int .i64 mem, .int .i64 deep, .int .i64 pl, .int .u8 34] w fun e w' => e = .returned (.bool true) ∧ Below w.heap.size w w' := by
  have HX : Hid (xs.length = len) := hx
  have HNIL : Hid (a = none → len = 0 ∧ cap = 0) := hnil
  have HRD : Hid (Reads .u64 w a b off xs) := hrd
  have HBV : Hid (∀ a2, bv 34 (pre1 (zacc st 1 ok a2 len mem deep pl)) = (0, { (zacc st 1 ok a2 len mem deep pl) with st := 6, mem := wrap64 (mem + 1), ms := pl, name := false, lit := ⟨#[]⟩ })) := by
    intro a2
    rw [pre1_one rfl, bv_34 _]
    rfl
  have hin : inB ⟨#[123, 91, 45, 48, 49, 50, 51, 52, 53, 54, 55, 56, 57, 116, 102, 110]⟩ 34 = false := inB_no (by unfold vstart; omega)
  have HC0 : Hid ((0 : Int) ≤ 34 ∧ (34 : Int) ≤ 255 ∧ (34 : Int) ≠ 123 ∧ (34 : Int) ≠ 91) := ⟨by omega, by omega, by omega, by omega⟩
  have hb5 : (ok == ok) = true := by simp
  have hb6 : (ok != ok) = false := by simp
  have hb7 : (deep == deep) = true := by simp
  have hb8 : (deep != deep) = false := by simp
  have hb9 : (wrap64 (mem + 1) != wrap64 (mem + 1)) = false := by simp
  have hb10 : (pl != pl) = false := by simp
  clear hx hnil hrd
  go_enter Try.func8, Try.ntmps8
  go_wp2_with (go_at_call 26; go_in)
  refine (cloneWords_gen a len cap b off w.heap.size xs _ HX.out (by omega) HNIL.out HRD.out (Nat.le_refl _)).mono ?_
  rintro e w1 ⟨a1, rfl, hc1⟩
  have hz1 := hc1.below.size
  have HC1 : Hid (Cloned w w1 a1 w.heap.size xs) := hc1
  clear hc1 HRD HNIL
  go_wp2_with fail
  refine (cloneWords_gen a1 len len w.heap.size 0 w.heap.size xs _ HX.out (by omega) (acc_nil HC1.out HX.out) HC1.out.reads hz1).mono ?_
  rintro e w2 ⟨a2, rfl, hc2⟩
  have hz2 := hc2.below.size
  have HC2 : Hid (Cloned w1 w2 a2 w.heap.size xs) := hc2
  clear hc2
  go_wp2_with fail
  have hcall := laid_plain w w1 w2 a1 a2 xs HC1.out HC2.out (zacc st 1 ok a2 len mem deep pl) rfl HX.out.symm 34 HC0.out.1 HC0.out.2.1 HC0.out.2.2.1 HC0.out.2.2.2
  rw [HBV.out a2] at hcall
  refine hcall.mono ?_
  clear hcall HC2 HC1 HBV HC0
  rintro e w4 ⟨rfl, hz4, hr2, hr1, hbel⟩
  have c0 : w4.cell? ⟨w2.heap.size, 0, none⟩ = some (.int .u8 6) := blkcell hz4 0
  have c1 : w4.cell? ⟨w2.heap.size, 1, none⟩ = some (.int .i64 1) := blkcell hz4 1
  have c2 : w4.cell? ⟨w2.heap.size, 2, none⟩ = some (.int .u64 ok) := blkcell hz4 2
  have c3 : w4.cell? ⟨w2.heap.size, 3, none⟩ = some (.slice a2 len len) := blkcell hz4 3
  have c4 : w4.cell? ⟨w2.heap.size, 4, none⟩ = some (.int .i64 (wrap64 (mem + 1))) := blkcell hz4 4
  have c5 : w4.cell? ⟨w2.heap.size, 5, none⟩ = some (.int .i64 deep) := blkcell hz4 5
  have c6 : w4.cell? ⟨w2.heap.size, 6, none⟩ = some (.bool false) := blkcell hz4 6
  have c7 : w4.cell? ⟨w2.heap.size, 7, none⟩ = some (.string ⟨#[]⟩) := blkcell hz4 7
  have c8 : w4.cell? ⟨w2.heap.size, 8, none⟩ = some (.int .i64 (pl)) := blkcell hz4 8
  have HR1 : Hid (Reads .u64 w4 a1 w.heap.size 0 xs) := hr1
  have HR2 : Hid (Reads .u64 w4 a2 w1.heap.size 0 xs) := hr2
  clear hz4 hr1 hr2 hz1 hz2
  go_wp2_with (first | (go_at_call 29; refine (inSet_any _ _ _ (by decide)).mono ?_; rintro e w' ⟨rfl, rfl⟩) | (go_at_call 30; refine (wordsEqual_any a2 a1 len len len len w1.heap.size 0 w.heap.size 0 xs xs _ HX.out HX.out (by omega) HR2.out HR1.out).mono ?_; rintro e w5 ⟨rfl, nd, rfl⟩))
  go_ret
  exact ⟨rfl, hbel.trans (below_drewN _ _ _)⟩

set_option maxHeartbeats 2000000 in
set_option maxRecDepth 100000 in
theorem acc_q_not (a : Option Addr) (len cap b off : Nat) (d : Nat) (st ok mem deep pl : Int) (xs : List Int) (w : World) (hx : xs.length = len) (hlen : len ≤ 131072) (hf : Fits d len) (hd2 : d ≤ 100000000) (hd1 : ¬ d = 1) 
    (hnil : a = none → len = 0 ∧ cap = 0) (hrd : Reads .u64 w a b off xs) :
    Calls Try.prog 8 #[.int .u8 st, .int .i64 d, .int .u64 ok, .slice a len cap, .int .i64 mem, .int .i64 deep, .int .i64 pl, .int .u8 34] w fun e w' => e = .returned (.bool true) ∧ Below w.heap.size w w' := by
  have HX : Hid (xs.length = len) := hx
  have HNIL : Hid (a = none → len = 0 ∧ cap = 0) := hnil
  have HRD : Hid (Reads .u64 w a b off xs) := hrd
  have HBV : Hid (∀ a2, bv 34 (pre1 (zacc st d ok a2 len mem deep pl)) = (0, { (zacc st d ok a2 len mem deep pl) with st := 6, mem := mem, ms := bits .xor .i64 (-1) pl, name := false, lit := ⟨#[]⟩ })) := by
    intro a2
    rw [pre1_not (show ¬ ((d : Int) = 1) by omega), bv_34 _]
    rfl
  have hin : inB ⟨#[123, 91, 45, 48, 49, 50, 51, 52, 53, 54, 55, 56, 57, 116, 102, 110]⟩ 34 = false := inB_no (by unfold vstart; omega)
  have HC0 : Hid ((0 : Int) ≤ 34 ∧ (34 : Int) ≤ 255 ∧ (34 : Int) ≠ 123 ∧ (34 : Int) ≠ 91) := ⟨by omega, by omega, by omega, by omega⟩
  have hdb : ((d : Int) == 1) = false := by simp; omega
  have hfar : d < 64 ∨ (64 ≤ d ∧ d / 64 - 1 ≤ len) := by unfold Fits at hf; omega
  clear hf hd1
  have hb3 : ((d : Int) == (d : Int)) = true := by simp
  have hb4 : ((d : Int) != (d : Int)) = false := by simp
  have hb5 : (ok == ok) = true := by simp
  have hb6 : (ok != ok) = false := by simp
  have hb7 : (deep == deep) = true := by simp
  have hb8 : (deep != deep) = false := by simp
  have hb9 : (mem != mem) = false := by simp
  have hb10 : (bits .xor .i64 (-1) pl != bits .xor .i64 (-1) pl) = false := by simp
  clear hx hnil hrd
  rcases hfar with hfar | ⟨hfar, hfar2⟩
  · go_enter Try.func8, Try.ntmps8
    go_wp2_with (go_at_call 26; go_in)
    refine (cloneWords_gen a len cap b off w.heap.size xs _ HX.out (by omega) HNIL.out HRD.out (Nat.le_refl _)).mono ?_
    rintro e w1 ⟨a1, rfl, hc1⟩
    have hz1 := hc1.below.size
    have HC1 : Hid (Cloned w w1 a1 w.heap.size xs) := hc1
    clear hc1 HRD HNIL
    go_wp2_with fail
    refine (cloneWords_gen a1 len len w.heap.size 0 w.heap.size xs _ HX.out (by omega) (acc_nil HC1.out HX.out) HC1.out.reads hz1).mono ?_
    rintro e w2 ⟨a2, rfl, hc2⟩
    have hz2 := hc2.below.size
    have HC2 : Hid (Cloned w1 w2 a2 w.heap.size xs) := hc2
    clear hc2
    go_wp2_with fail
    have hcall := laid_plain w w1 w2 a1 a2 xs HC1.out HC2.out (zacc st d ok a2 len mem deep pl) rfl HX.out.symm 34 HC0.out.1 HC0.out.2.1 HC0.out.2.2.1 HC0.out.2.2.2
    rw [HBV.out a2] at hcall
    refine hcall.mono ?_
    clear hcall HC2 HC1 HBV HC0
    rintro e w4 ⟨rfl, hz4, hr2, hr1, hbel⟩
    have c0 : w4.cell? ⟨w2.heap.size, 0, none⟩ = some (.int .u8 6) := blkcell hz4 0
    have c1 : w4.cell? ⟨w2.heap.size, 1, none⟩ = some (.int .i64 d) := blkcell hz4 1
    have c2 : w4.cell? ⟨w2.heap.size, 2, none⟩ = some (.int .u64 ok) := blkcell hz4 2
    have c3 : w4.cell? ⟨w2.heap.size, 3, none⟩ = some (.slice a2 len len) := blkcell hz4 3
    have c4 : w4.cell? ⟨w2.heap.size, 4, none⟩ = some (.int .i64 (mem)) := blkcell hz4 4
    have c5 : w4.cell? ⟨w2.heap.size, 5, none⟩ = some (.int .i64 deep) := blkcell hz4 5
    have c6 : w4.cell? ⟨w2.heap.size, 6, none⟩ = some (.bool false) := blkcell hz4 6
    have c7 : w4.cell? ⟨w2.heap.size, 7, none⟩ = some (.string ⟨#[]⟩) := blkcell hz4 7
    have c8 : w4.cell? ⟨w2.heap.size, 8, none⟩ = some (.int .i64 (bits .xor .i64 (-1) pl)) := blkcell hz4 8
    have HR1 : Hid (Reads .u64 w4 a1 w.heap.size 0 xs) := hr1
    have HR2 : Hid (Reads .u64 w4 a2 w1.heap.size 0 xs) := hr2
    clear hz4 hr1 hr2 hz1 hz2
    go_wp2_with (first | (go_at_call 29; refine (inSet_any _ _ _ (by decide)).mono ?_; rintro e w' ⟨rfl, rfl⟩) | (go_at_call 30; refine (wordsEqual_any a2 a1 len len len len w1.heap.size 0 w.heap.size 0 xs xs _ HX.out HX.out (by omega) HR2.out HR1.out).mono ?_; rintro e w5 ⟨rfl, nd, rfl⟩))
    go_ret
    exact ⟨rfl, hbel.trans (below_drewN _ _ _)⟩
  · go_enter Try.func8, Try.ntmps8
    go_wp2_with (go_at_call 26; go_in)
    refine (cloneWords_gen a len cap b off w.heap.size xs _ HX.out (by omega) HNIL.out HRD.out (Nat.le_refl _)).mono ?_
    rintro e w1 ⟨a1, rfl, hc1⟩
    have hz1 := hc1.below.size
    have HC1 : Hid (Cloned w w1 a1 w.heap.size xs) := hc1
    clear hc1 HRD HNIL
    go_wp2_with fail
    refine (cloneWords_gen a1 len len w.heap.size 0 w.heap.size xs _ HX.out (by omega) (acc_nil HC1.out HX.out) HC1.out.reads hz1).mono ?_
    rintro e w2 ⟨a2, rfl, hc2⟩
    have hz2 := hc2.below.size
    have HC2 : Hid (Cloned w1 w2 a2 w.heap.size xs) := hc2
    clear hc2
    go_wp2_with fail
    have hcall := laid_plain w w1 w2 a1 a2 xs HC1.out HC2.out (zacc st d ok a2 len mem deep pl) rfl HX.out.symm 34 HC0.out.1 HC0.out.2.1 HC0.out.2.2.1 HC0.out.2.2.2
    rw [HBV.out a2] at hcall
    refine hcall.mono ?_
    clear hcall HC2 HC1 HBV HC0
    rintro e w4 ⟨rfl, hz4, hr2, hr1, hbel⟩
    have c0 : w4.cell? ⟨w2.heap.size, 0, none⟩ = some (.int .u8 6) := blkcell hz4 0
    have c1 : w4.cell? ⟨w2.heap.size, 1, none⟩ = some (.int .i64 d) := blkcell hz4 1
    have c2 : w4.cell? ⟨w2.heap.size, 2, none⟩ = some (.int .u64 ok) := blkcell hz4 2
    have c3 : w4.cell? ⟨w2.heap.size, 3, none⟩ = some (.slice a2 len len) := blkcell hz4 3
    have c4 : w4.cell? ⟨w2.heap.size, 4, none⟩ = some (.int .i64 (mem)) := blkcell hz4 4
    have c5 : w4.cell? ⟨w2.heap.size, 5, none⟩ = some (.int .i64 deep) := blkcell hz4 5
    have c6 : w4.cell? ⟨w2.heap.size, 6, none⟩ = some (.bool false) := blkcell hz4 6
    have c7 : w4.cell? ⟨w2.heap.size, 7, none⟩ = some (.string ⟨#[]⟩) := blkcell hz4 7
    have c8 : w4.cell? ⟨w2.heap.size, 8, none⟩ = some (.int .i64 (bits .xor .i64 (-1) pl)) := blkcell hz4 8
    have HR1 : Hid (Reads .u64 w4 a1 w.heap.size 0 xs) := hr1
    have HR2 : Hid (Reads .u64 w4 a2 w1.heap.size 0 xs) := hr2
    clear hz4 hr1 hr2 hz1 hz2
    go_wp2_with (first | (go_at_call 29; refine (inSet_any _ _ _ (by decide)).mono ?_; rintro e w' ⟨rfl, rfl⟩) | (go_at_call 30; refine (wordsEqual_any a2 a1 len len len len w1.heap.size 0 w.heap.size 0 xs xs _ HX.out HX.out (by omega) HR2.out HR1.out).mono ?_; rintro e w5 ⟨rfl, nd, rfl⟩))
    go_ret
    exact ⟨rfl, hbel.trans (below_drewN _ _ _)⟩

set_option maxHeartbeats 2000000 in
set_option maxRecDepth 100000 in
theorem acc_m_one (a : Option Addr) (len cap b off : Nat) (st ok mem deep pl : Int) (xs : List Int) (w : World) (hx : xs.length = len) (hlen : len ≤ 131072)  
    (hnil : a = none → len = 0 ∧ cap = 0) (hrd : Reads .u64 w a b off xs) :
    Calls Try.prog 8 #[.int .u8 st, .int .i64 1, .int .u64 ok, .slice a len cap, .int .i64 mem, .int .i64 deep, .int .i64 pl, .int .u8 45] w fun e w' => e = .returned (.bool true) ∧ Below w.heap.size w w' := by
  have HX : Hid (xs.length = len) := hx
  have HNIL : Hid (a = none → len = 0 ∧ cap = 0) := hnil
  have HRD : Hid (Reads .u64 w a b off xs) := hrd
  have HBV : Hid (∀ a2, bv 45 (pre1 (zacc st 1 ok a2 len mem deep pl)) = (0, { (zacc st 1 ok a2 len mem deep pl) with st := 9, mem := wrap64 (mem + 1), ms := pl, name := true, lit := ⟨#[]⟩ })) := by
    intro a2
    rw [pre1_one rfl, bv_45 _]
    rfl
  have hin : inB ⟨#[123, 91, 45, 48, 49, 50, 51, 52, 53, 54, 55, 56, 57, 116, 102, 110]⟩ 45 = true := inB_yes (by unfold vstart; omega)
  have HC0 : Hid ((0 : Int) ≤ 45 ∧ (45 : Int) ≤ 255 ∧ (45 : Int) ≠ 123 ∧ (45 : Int) ≠ 91) := ⟨by omega, by omega, by omega, by omega⟩
  have hb5 : (ok == ok) = true := by simp
  have hb6 : (ok != ok) = false := by simp
  have hb7 : (deep == deep) = true := by simp
  have hb8 : (deep != deep) = false := by simp
  have hb9 : (wrap64 (mem + 1) != wrap64 (mem + 1)) = false := by simp
  have hb10 : (pl != pl) = false := by simp
  clear hx hnil hrd
  go_enter Try.func8, Try.ntmps8
  go_wp2_with (go_at_call 26; go_in)
  refine (cloneWords_gen a len cap b off w.heap.size xs _ HX.out (by omega) HNIL.out HRD.out (Nat.le_refl _)).mono ?_
  rintro e w1 ⟨a1, rfl, hc1⟩
  have hz1 := hc1.below.size
  have HC1 : Hid (Cloned w w1 a1 w.heap.size xs) := hc1
  clear hc1 HRD HNIL
  go_wp2_with fail
  refine (cloneWords_gen a1 len len w.heap.size 0 w.heap.size xs _ HX.out (by omega) (acc_nil HC1.out HX.out) HC1.out.reads hz1).mono ?_
  rintro e w2 ⟨a2, rfl, hc2⟩
  have hz2 := hc2.below.size
  have HC2 : Hid (Cloned w1 w2 a2 w.heap.size xs) := hc2
  clear hc2
  go_wp2_with fail
  have hcall := laid_plain w w1 w2 a1 a2 xs HC1.out HC2.out (zacc st 1 ok a2 len mem deep pl) rfl HX.out.symm 45 HC0.out.1 HC0.out.2.1 HC0.out.2.2.1 HC0.out.2.2.2
  rw [HBV.out a2] at hcall
  refine hcall.mono ?_
  clear hcall HC2 HC1 HBV HC0
  rintro e w4 ⟨rfl, hz4, hr2, hr1, hbel⟩
  have c0 : w4.cell? ⟨w2.heap.size, 0, none⟩ = some (.int .u8 9) := blkcell hz4 0
  have c1 : w4.cell? ⟨w2.heap.size, 1, none⟩ = some (.int .i64 1) := blkcell hz4 1
  have c2 : w4.cell? ⟨w2.heap.size, 2, none⟩ = some (.int .u64 ok) := blkcell hz4 2
  have c3 : w4.cell? ⟨w2.heap.size, 3, none⟩ = some (.slice a2 len len) := blkcell hz4 3
  have c4 : w4.cell? ⟨w2.heap.size, 4, none⟩ = some (.int .i64 (wrap64 (mem + 1))) := blkcell hz4 4
  have c5 : w4.cell? ⟨w2.heap.size, 5, none⟩ = some (.int .i64 deep) := blkcell hz4 5
  have c6 : w4.cell? ⟨w2.heap.size, 6, none⟩ = some (.bool true) := blkcell hz4 6
  have c7 : w4.cell? ⟨w2.heap.size, 7, none⟩ = some (.string ⟨#[]⟩) := blkcell hz4 7
  have c8 : w4.cell? ⟨w2.heap.size, 8, none⟩ = some (.int .i64 (pl)) := blkcell hz4 8
  have HR1 : Hid (Reads .u64 w4 a1 w.heap.size 0 xs) := hr1
  have HR2 : Hid (Reads .u64 w4 a2 w1.heap.size 0 xs) := hr2
  clear hz4 hr1 hr2 hz1 hz2
  go_wp2_with (first | (go_at_call 29; refine (inSet_any _ _ _ (by decide)).mono ?_; rintro e w' ⟨rfl, rfl⟩) | (go_at_call 30; refine (wordsEqual_any a2 a1 len len len len w1.heap.size 0 w.heap.size 0 xs xs _ HX.out HX.out (by omega) HR2.out HR1.out).mono ?_; rintro e w5 ⟨rfl, nd, rfl⟩))
  go_ret
  exact ⟨rfl, hbel.trans (below_drewN _ _ _)⟩

set_option maxHeartbeats 2000000 in
set_option maxRecDepth 100000 in
theorem acc_m_not (a : Option Addr) (len cap b off : Nat) (d : Nat) (st ok mem deep pl : Int) (xs : List Int) (w : World) (hx : xs.length = len) (hlen : len ≤ 131072) (hf : Fits d len) (hd2 : d ≤ 100000000) (hd1 : ¬ d = 1) 
    (hnil : a = none → len = 0 ∧ cap = 0) (hrd : Reads .u64 w a b off xs) :
    Calls Try.prog 8 #[.int .u8 st, .int .i64 d, .int .u64 ok, .slice a len cap, .int .i64 mem, .int .i64 deep, .int .i64 pl, .int .u8 45] w fun e w' => e = .returned (.bool true) ∧ Below w.heap.size w w' := by
  have HX : Hid (xs.length = len) := hx
  have HNIL : Hid (a = none → len = 0 ∧ cap = 0) := hnil
  have HRD : Hid (Reads .u64 w a b off xs) := hrd
  have HBV : Hid (∀ a2, bv 45 (pre1 (zacc st d ok a2 len mem deep pl)) = (0, { (zacc st d ok a2 len mem deep pl) with st := 9, mem := mem, ms := bits .xor .i64 (-1) pl, name := true, lit := ⟨#[]⟩ })) := by
    intro a2
    rw [pre1_not (show ¬ ((d : Int) = 1) by omega), bv_45 _]
    rfl
  have hin : inB ⟨#[123, 91, 45, 48, 49, 50, 51, 52, 53, 54, 55, 56, 57, 116, 102, 110]⟩ 45 = true := inB_yes (by unfold vstart; omega)
  have HC0 : Hid ((0 : Int) ≤ 45 ∧ (45 : Int) ≤ 255 ∧ (45 : Int) ≠ 123 ∧ (45 : Int) ≠ 91) := ⟨by omega, by omega, by omega, by omega⟩
  have hdb : ((d : Int) == 1) = false := by simp; omega
  have hfar : d < 64 ∨ (64 ≤ d ∧ d / 64 - 1 ≤ len) := by unfold Fits at hf; omega
  clear hf hd1
  have hb3 : ((d : Int) == (d : Int)) = true := by simp
  have hb4 : ((d : Int) != (d : Int)) = false := by simp
  have hb5 : (ok == ok) = true := by simp
  have hb6 : (ok != ok) = false := by simp
  have hb7 : (deep == deep) = true := by simp
  have hb8 : (deep != deep) = false := by simp
  have hb9 : (mem != mem) = false := by simp
  have hb10 : (bits .xor .i64 (-1) pl != bits .xor .i64 (-1) pl) = false := by simp
  clear hx hnil hrd
  rcases hfar with hfar | ⟨hfar, hfar2⟩
  · go_enter Try.func8, Try.ntmps8
    go_wp2_with (go_at_call 26; go_in)
    refine (cloneWords_gen a len cap b off w.heap.size xs _ HX.out (by omega) HNIL.out HRD.out (Nat.le_refl _)).mono ?_
    rintro e w1 ⟨a1, rfl, hc1⟩
    have hz1 := hc1.below.size
    have HC1 : Hid (Cloned w w1 a1 w.heap.size xs) := hc1
    clear hc1 HRD HNIL
    go_wp2_with fail
    refine (cloneWords_gen a1 len len w.heap.size 0 w.heap.size xs _ HX.out (by omega) (acc_nil HC1.out HX.out) HC1.out.reads hz1).mono ?_
    rintro e w2 ⟨a2, rfl, hc2⟩
    have hz2 := hc2.below.size
    have HC2 : Hid (Cloned w1 w2 a2 w.heap.size xs) := hc2
    clear hc2
    go_wp2_with fail
    have hcall := laid_plain w w1 w2 a1 a2 xs HC1.out HC2.out (zacc st d ok a2 len mem deep pl) rfl HX.out.symm 45 HC0.out.1 HC0.out.2.1 HC0.out.2.2.1 HC0.out.2.2.2
    rw [HBV.out a2] at hcall
    refine hcall.mono ?_
    clear hcall HC2 HC1 HBV HC0
    rintro e w4 ⟨rfl, hz4, hr2, hr1, hbel⟩
    have c0 : w4.cell? ⟨w2.heap.size, 0, none⟩ = some (.int .u8 9) := blkcell hz4 0
    have c1 : w4.cell? ⟨w2.heap.size, 1, none⟩ = some (.int .i64 d) := blkcell hz4 1
    have c2 : w4.cell? ⟨w2.heap.size, 2, none⟩ = some (.int .u64 ok) := blkcell hz4 2
    have c3 : w4.cell? ⟨w2.heap.size, 3, none⟩ = some (.slice a2 len len) := blkcell hz4 3
    have c4 : w4.cell? ⟨w2.heap.size, 4, none⟩ = some (.int .i64 (mem)) := blkcell hz4 4
    have c5 : w4.cell? ⟨w2.heap.size, 5, none⟩ = some (.int .i64 deep) := blkcell hz4 5
    have c6 : w4.cell? ⟨w2.heap.size, 6, none⟩ = some (.bool true) := blkcell hz4 6
    have c7 : w4.cell? ⟨w2.heap.size, 7, none⟩ = some (.string ⟨#[]⟩) := blkcell hz4 7
    have c8 : w4.cell? ⟨w2.heap.size, 8, none⟩ = some (.int .i64 (bits .xor .i64 (-1) pl)) := blkcell hz4 8
    have HR1 : Hid (Reads .u64 w4 a1 w.heap.size 0 xs) := hr1
    have HR2 : Hid (Reads .u64 w4 a2 w1.heap.size 0 xs) := hr2
    clear hz4 hr1 hr2 hz1 hz2
    go_wp2_with (first | (go_at_call 29; refine (inSet_any _ _ _ (by decide)).mono ?_; rintro e w' ⟨rfl, rfl⟩) | (go_at_call 30; refine (wordsEqual_any a2 a1 len len len len w1.heap.size 0 w.heap.size 0 xs xs _ HX.out HX.out (by omega) HR2.out HR1.out).mono ?_; rintro e w5 ⟨rfl, nd, rfl⟩))
    go_ret
    exact ⟨rfl, hbel.trans (below_drewN _ _ _)⟩
  · go_enter Try.func8, Try.ntmps8
    go_wp2_with (go_at_call 26; go_in)
    refine (cloneWords_gen a len cap b off w.heap.size xs _ HX.out (by omega) HNIL.out HRD.out (Nat.le_refl _)).mono ?_
    rintro e w1 ⟨a1, rfl, hc1⟩
    have hz1 := hc1.below.size
    have HC1 : Hid (Cloned w w1 a1 w.heap.size xs) := hc1
    clear hc1 HRD HNIL
    go_wp2_with fail
    refine (cloneWords_gen a1 len len w.heap.size 0 w.heap.size xs _ HX.out (by omega) (acc_nil HC1.out HX.out) HC1.out.reads hz1).mono ?_
    rintro e w2 ⟨a2, rfl, hc2⟩
    have hz2 := hc2.below.size
    have HC2 : Hid (Cloned w1 w2 a2 w.heap.size xs) := hc2
    clear hc2
    go_wp2_with fail
    have hcall := laid_plain w w1 w2 a1 a2 xs HC1.out HC2.out (zacc st d ok a2 len mem deep pl) rfl HX.out.symm 45 HC0.out.1 HC0.out.2.1 HC0.out.2.2.1 HC0.out.2.2.2
    rw [HBV.out a2] at hcall
    refine hcall.mono ?_
    clear hcall HC2 HC1 HBV HC0
    rintro e w4 ⟨rfl, hz4, hr2, hr1, hbel⟩
    have c0 : w4.cell? ⟨w2.heap.size, 0, none⟩ = some (.int .u8 9) := blkcell hz4 0
    have c1 : w4.cell? ⟨w2.heap.size, 1, none⟩ = some (.int .i64 d) := blkcell hz4 1
    have c2 : w4.cell? ⟨w2.heap.size, 2, none⟩ = some (.int .u64 ok) := blkcell hz4 2
    have c3 : w4.cell? ⟨w2.heap.size, 3, none⟩ = some (.slice a2 len len) := blkcell hz4 3
    have c4 : w4.cell? ⟨w2.heap.size, 4, none⟩ = some (.int .i64 (mem)) := blkcell hz4 4
    have c5 : w4.cell? ⟨w2.heap.size, 5, none⟩ = some (.int .i64 deep) := blkcell hz4 5
    have c6 : w4.cell? ⟨w2.heap.size, 6, none⟩ = some (.bool true) := blkcell hz4 6
    have c7 : w4.cell? ⟨w2.heap.size, 7, none⟩ = some (.string ⟨#[]⟩) := blkcell hz4 7
    have c8 : w4.cell? ⟨w2.heap.size, 8, none⟩ = some (.int .i64 (bits .xor .i64 (-1) pl)) := blkcell hz4 8
    have HR1 : Hid (Reads .u64 w4 a1 w.heap.size 0 xs) := hr1
    have HR2 : Hid (Reads .u64 w4 a2 w1.heap.size 0 xs) := hr2
    clear hz4 hr1 hr2 hz1 hz2
    go_wp2_with (first | (go_at_call 29; refine (inSet_any _ _ _ (by decide)).mono ?_; rintro e w' ⟨rfl, rfl⟩) | (go_at_call 30; refine (wordsEqual_any a2 a1 len len len len w1.heap.size 0 w.heap.size 0 xs xs _ HX.out HX.out (by omega) HR2.out HR1.out).mono ?_; rintro e w5 ⟨rfl, nd, rfl⟩))
    go_ret
    exact ⟨rfl, hbel.trans (below_drewN _ _ _)⟩

set_option maxHeartbeats 2000000 in
set_option maxRecDepth 100000 in
theorem acc_z_one (a : Option Addr) (len cap b off : Nat) (st ok mem deep pl : Int) (xs : List Int) (w : World) (hx : xs.length = len) (hlen : len ≤ 131072)  
    (hnil : a = none → len = 0 ∧ cap = 0) (hrd : Reads .u64 w a b off xs) :
    Calls Try.prog 8 #[.int .u8 st, .int .i64 1, .int .u64 ok, .slice a len cap, .int .i64 mem, .int .i64 deep, .int .i64 pl, .int .u8 48] w fun e w' => e = .returned (.bool true) ∧ Below w.heap.size w w' := by
  have HX : Hid (xs.length = len) := hx
  have HNIL : Hid (a = none → len = 0 ∧ cap = 0) := hnil
  have HRD : Hid (Reads .u64 w a b off xs) := hrd
  have HBV : Hid (∀ a2, bv 48 (pre1 (zacc st 1 ok a2 len mem deep pl)) = (0, { (zacc st 1 ok a2 len mem deep pl) with st := 10, mem := wrap64 (mem + 1), ms := pl, name := true, lit := ⟨#[]⟩ })) := by
    intro a2
    rw [pre1_one rfl, bv_48 _]
    rfl
  have hin : inB ⟨#[123, 91, 45, 48, 49, 50, 51, 52, 53, 54, 55, 56, 57, 116, 102, 110]⟩ 48 = true := inB_yes (by unfold vstart; omega)
  have HC0 : Hid ((0 : Int) ≤ 48 ∧ (48 : Int) ≤ 255 ∧ (48 : Int) ≠ 123 ∧ (48 : Int) ≠ 91) := ⟨by omega, by omega, by omega, by omega⟩
  have hb5 : (ok == ok) = true := by simp
  have hb6 : (ok != ok) = false := by simp
  have hb7 : (deep == deep) = true := by simp
  have hb8 : (deep != deep) = false := by simp
  have hb9 : (wrap64 (mem + 1) != wrap64 (mem + 1)) = false := by simp
  have hb10 : (pl != pl) = false := by simp
  clear hx hnil hrd
  go_enter Try.func8, Try.ntmps8
  go_wp2_with (go_at_call 26; go_in)
  refine (cloneWords_gen a len cap b off w.heap.size xs _ HX.out (by omega) HNIL.out HRD.out (Nat.le_refl _)).mono ?_
  rintro e w1 ⟨a1, rfl, hc1⟩
  have hz1 := hc1.below.size
  have HC1 : Hid (Cloned w w1 a1 w.heap.size xs) := hc1
  clear hc1 HRD HNIL
  go_wp2_with fail
  refine (cloneWords_gen a1 len len w.heap.size 0 w.heap.size xs _ HX.out (by omega) (acc_nil HC1.out HX.out) HC1.out.reads hz1).mono ?_
  rintro e w2 ⟨a2, rfl, hc2⟩
  have hz2 := hc2.below.size
  have HC2 : Hid (Cloned w1 w2 a2 w.heap.size xs) := hc2
  clear hc2
  go_wp2_with fail
  have hcall := laid_plain w w1 w2 a1 a2 xs HC1.out HC2.out (zacc st 1 ok a2 len mem deep pl) rfl HX.out.symm 48 HC0.out.1 HC0.out.2.1 HC0.out.2.2.1 HC0.out.2.2.2
  rw [HBV.out a2] at hcall
  refine hcall.mono ?_
  clear hcall HC2 HC1 HBV HC0
  rintro e w4 ⟨rfl, hz4, hr2, hr1, hbel⟩
  have c0 : w4.cell? ⟨w2.heap.size, 0, none⟩ = some (.int .u8 10) := blkcell hz4 0
  have c1 : w4.cell? ⟨w2.heap.size, 1, none⟩ = some (.int .i64 1) := blkcell hz4 1
  have c2 : w4.cell? ⟨w2.heap.size, 2, none⟩ = some (.int .u64 ok) := blkcell hz4 2
  have c3 : w4.cell? ⟨w2.heap.size, 3, none⟩ = some (.slice a2 len len) := blkcell hz4 3
  have c4 : w4.cell? ⟨w2.heap.size, 4, none⟩ = some (.int .i64 (wrap64 (mem + 1))) := blkcell hz4 4
  have c5 : w4.cell? ⟨w2.heap.size, 5, none⟩ = some (.int .i64 deep) := blkcell hz4 5
  have c6 : w4.cell? ⟨w2.heap.size, 6, none⟩ = some (.bool true) := blkcell hz4 6
  have c7 : w4.cell? ⟨w2.heap.size, 7, none⟩ = some (.string ⟨#[]⟩) := blkcell hz4 7
  have c8 : w4.cell? ⟨w2.heap.size, 8, none⟩ = some (.int .i64 (pl)) := blkcell hz4 8
  have HR1 : Hid (Reads .u64 w4 a1 w.heap.size 0 xs) := hr1
  have HR2 : Hid (Reads .u64 w4 a2 w1.heap.size 0 xs) := hr2
  clear hz4 hr1 hr2 hz1 hz2
  go_wp2_with (first | (go_at_call 29; refine (inSet_any _ _ _ (by decide)).mono ?_; rintro e w' ⟨rfl, rfl⟩) | (go_at_call 30; refine (wordsEqual_any a2 a1 len len len len w1.heap.size 0 w.heap.size 0 xs xs _ HX.out HX.out (by omega) HR2.out HR1.out).mono ?_; rintro e w5 ⟨rfl, nd, rfl⟩))
  go_ret
  exact ⟨rfl, hbel.trans (below_drewN _ _ _)⟩

set_option maxHeartbeats 2000000 in
set_option maxRecDepth 100000 in
theorem acc_z_not (a : Option Addr) (len cap b off : Nat) (d : Nat) (st ok mem deep pl : Int) (xs : List Int) (w : World) (hx : xs.length = len) (hlen : len ≤ 131072) (hf : Fits d len) (hd2 : d ≤ 100000000) (hd1 : ¬ d = 1) 
    (hnil : a = none → len = 0 ∧ cap = 0) (hrd : Reads .u64 w a b off xs) :
    Calls Try.prog 8 #[.int .u8 st, .int .i64 d, .int .u64 ok, .slice a len cap, .int .i64 mem, .int .i64 deep, .int .i64 pl, .int .u8 48] w fun e w' => e = .returned (.bool true) ∧ Below w.heap.size w w' := by
  have HX : Hid (xs.length = len) := hx
  have HNIL : Hid (a = none → len = 0 ∧ cap = 0) := hnil
  have HRD : Hid (Reads .u64 w a b off xs) := hrd
  have HBV : Hid (∀ a2, bv 48 (pre1 (zacc st d ok a2 len mem deep pl)) = (0, { (zacc st d ok a2 len mem deep pl) with st := 10, mem := mem, ms := bits .xor .i64 (-1) pl, name := true, lit := ⟨#[]⟩ })) := by
    intro a2
    rw [pre1_not (show ¬ ((d : Int) = 1) by omega), bv_48 _]
    rfl
  have hin : inB ⟨#[123, 91, 45, 48, 49, 50, 51, 52, 53, 54, 55, 56, 57, 116, 102, 110]⟩ 48 = true := inB_yes (by unfold vstart; omega)
  have HC0 : Hid ((0 : Int) ≤ 48 ∧ (48 : Int) ≤ 255 ∧ (48 : Int) ≠ 123 ∧ (48 : Int) ≠ 91) := ⟨by omega, by omega, by omega, by omega⟩
  have hdb : ((d : Int) == 1) = false := by simp; omega
  have hfar : d < 64 ∨ (64 ≤ d ∧ d / 64 - 1 ≤ len) := by unfold Fits at hf; omega
  clear hf hd1
  have hb3 : ((d : Int) == (d : Int)) = true := by simp
  have hb4 : ((d : Int) != (d : Int)) = false := by simp
  have hb5 : (ok == ok) = true := by simp
  have hb6 : (ok != ok) = false := by simp
  have hb7 : (deep == deep) = true := by simp
  have hb8 : (deep != deep) = false := by simp
  have hb9 : (mem != mem) = false := by simp
  have hb10 : (bits .xor .i64 (-1) pl != bits .xor .i64 (-1) pl) = false := by simp
  clear hx hnil hrd
  rcases hfar with hfar | ⟨hfar, hfar2⟩
  · go_enter Try.func8, Try.ntmps8
    go_wp2_with (go_at_call 26; go_in)
    refine (cloneWords_gen a len cap b off w.heap.size xs _ HX.out (by omega) HNIL.out HRD.out (Nat.le_refl _)).mono ?_
    rintro e w1 ⟨a1, rfl, hc1⟩
    have hz1 := hc1.below.size
    have HC1 : Hid (Cloned w w1 a1 w.heap.size xs) := hc1
    clear hc1 HRD HNIL
    go_wp2_with fail
    refine (cloneWords_gen a1 len len w.heap.size 0 w.heap.size xs _ HX.out (by omega) (acc_nil HC1.out HX.out) HC1.out.reads hz1).mono ?_
    rintro e w2 ⟨a2, rfl, hc2⟩
    have hz2 := hc2.below.size
    have HC2 : Hid (Cloned w1 w2 a2 w.heap.size xs) := hc2
    clear hc2
    go_wp2_with fail
    have hcall := laid_plain w w1 w2 a1 a2 xs HC1.out HC2.out (zacc st d ok a2 len mem deep pl) rfl HX.out.symm 48 HC0.out.1 HC0.out.2.1 HC0.out.2.2.1 HC0.out.2.2.2
    rw [HBV.out a2] at hcall
    refine hcall.mono ?_
    clear hcall HC2 HC1 HBV HC0
    rintro e w4 ⟨rfl, hz4, hr2, hr1, hbel⟩
    have c0 : w4.cell? ⟨w2.heap.size, 0, none⟩ = some (.int .u8 10) := blkcell hz4 0
    have c1 : w4.cell? ⟨w2.heap.size, 1, none⟩ = some (.int .i64 d) := blkcell hz4 1
    have c2 : w4.cell? ⟨w2.heap.size, 2, none⟩ = some (.int .u64 ok) := blkcell hz4 2
    have c3 : w4.cell? ⟨w2.heap.size, 3, none⟩ = some (.slice a2 len len) := blkcell hz4 3
    have c4 : w4.cell? ⟨w2.heap.size, 4, none⟩ = some (.int .i64 (mem)) := blkcell hz4 4
    have c5 : w4.cell? ⟨w2.heap.size, 5, none⟩ = some (.int .i64 deep) := blkcell hz4 5
    have c6 : w4.cell? ⟨w2.heap.size, 6, none⟩ = some (.bool true) := blkcell hz4 6
    have c7 : w4.cell? ⟨w2.heap.size, 7, none⟩ = some (.string ⟨#[]⟩) := blkcell hz4 7
    have c8 : w4.cell? ⟨w2.heap.size, 8, none⟩ = some (.int .i64 (bits .xor .i64 (-1) pl)) := blkcell hz4 8
    have HR1 : Hid (Reads .u64 w4 a1 w.heap.size 0 xs) := hr1
    have HR2 : Hid (Reads .u64 w4 a2 w1.heap.size 0 xs) := hr2
    clear hz4 hr1 hr2 hz1 hz2
    go_wp2_with (first | (go_at_call 29; refine (inSet_any _ _ _ (by decide)).mono ?_; rintro e w' ⟨rfl, rfl⟩) | (go_at_call 30; refine (wordsEqual_any a2 a1 len len len len w1.heap.size 0 w.heap.size 0 xs xs _ HX.out HX.out (by omega) HR2.out HR1.out).mono ?_; rintro e w5 ⟨rfl, nd, rfl⟩))
    go_ret
    exact ⟨rfl, hbel.trans (below_drewN _ _ _)⟩
  · go_enter Try.func8, Try.ntmps8
    go_wp2_with (go_at_call 26; go_in)
    refine (cloneWords_gen a len cap b off w.heap.size xs _ HX.out (by omega) HNIL.out HRD.out (Nat.le_refl _)).mono ?_
    rintro e w1 ⟨a1, rfl, hc1⟩
    have hz1 := hc1.below.size
    have HC1 : Hid (Cloned w w1 a1 w.heap.size xs) := hc1
    clear hc1 HRD HNIL
    go_wp2_with fail
    refine (cloneWords_gen a1 len len w.heap.size 0 w.heap.size xs _ HX.out (by omega) (acc_nil HC1.out HX.out) HC1.out.reads hz1).mono ?_
    rintro e w2 ⟨a2, rfl, hc2⟩
    have hz2 := hc2.below.size
    have HC2 : Hid (Cloned w1 w2 a2 w.heap.size xs) := hc2
    clear hc2
    go_wp2_with fail
    have hcall := laid_plain w w1 w2 a1 a2 xs HC1.out HC2.out (zacc st d ok a2 len mem deep pl) rfl HX.out.symm 48 HC0.out.1 HC0.out.2.1 HC0.out.2.2.1 HC0.out.2.2.2
    rw [HBV.out a2] at hcall
    refine hcall.mono ?_
    clear hcall HC2 HC1 HBV HC0
    rintro e w4 ⟨rfl, hz4, hr2, hr1, hbel⟩
    have c0 : w4.cell? ⟨w2.heap.size, 0, none⟩ = some (.int .u8 10) := blkcell hz4 0
    have c1 : w4.cell? ⟨w2.heap.size, 1, none⟩ = some (.int .i64 d) := blkcell hz4 1
    have c2 : w4.cell? ⟨w2.heap.size, 2, none⟩ = some (.int .u64 ok) := blkcell hz4 2
    have c3 : w4.cell? ⟨w2.heap.size, 3, none⟩ = some (.slice a2 len len) := blkcell hz4 3
    have c4 : w4.cell? ⟨w2.heap.size, 4, none⟩ = some (.int .i64 (mem)) := blkcell hz4 4
    have c5 : w4.cell? ⟨w2.heap.size, 5, none⟩ = some (.int .i64 deep) := blkcell hz4 5
    have c6 : w4.cell? ⟨w2.heap.size, 6, none⟩ = some (.bool true) := blkcell hz4 6
    have c7 : w4.cell? ⟨w2.heap.size, 7, none⟩ = some (.string ⟨#[]⟩) := blkcell hz4 7
    have c8 : w4.cell? ⟨w2.heap.size, 8, none⟩ = some (.int .i64 (bits .xor .i64 (-1) pl)) := blkcell hz4 8
    have HR1 : Hid (Reads .u64 w4 a1 w.heap.size 0 xs) := hr1
    have HR2 : Hid (Reads .u64 w4 a2 w1.heap.size 0 xs) := hr2
    clear hz4 hr1 hr2 hz1 hz2
    go_wp2_with (first | (go_at_call 29; refine (inSet_any _ _ _ (by decide)).mono ?_; rintro e w' ⟨rfl, rfl⟩) | (go_at_call 30; refine (wordsEqual_any a2 a1 len len len len w1.heap.size 0 w.heap.size 0 xs xs _ HX.out HX.out (by omega) HR2.out HR1.out).mono ?_; rintro e w5 ⟨rfl, nd, rfl⟩))
    go_ret
    exact ⟨rfl, hbel.trans (below_drewN _ _ _)⟩

set_option maxHeartbeats 2000000 in
set_option maxRecDepth 100000 in
theorem acc_d_one (a : Option Addr) (len cap b off : Nat) (st ok mem deep pl : Int) (c : Int) (xs : List Int) (w : World) (hx : xs.length = len) (hlen : len ≤ 131072)  (hc0 : 49 ≤ c) (hc1 : c ≤ 57)
    (hnil : a = none → len = 0 ∧ cap = 0) (hrd : Reads .u64 w a b off xs) :
    Calls Try.prog 8 #[.int .u8 st, .int .i64 1, .int .u64 ok, .slice a len cap, .int .i64 mem, .int .i64 deep, .int .i64 pl, .int .u8 c] w fun e w' => e = .returned (.bool true) ∧ Below w.heap.size w w' := by
  have HX : Hid (xs.length = len) := hx
  have HNIL : Hid (a = none → len = 0 ∧ cap = 0) := hnil
  have HRD : Hid (Reads .u64 w a b off xs) := hrd
  have HBV : Hid (∀ a2, bv c (pre1 (zacc st 1 ok a2 len mem deep pl)) = (0, { (zacc st 1 ok a2 len mem deep pl) with st := 11, mem := wrap64 (mem + 1), ms := pl, name := true, lit := ⟨#[]⟩ })) := by
    intro a2
    rw [pre1_one rfl, bv_dig hc0 hc1 _]
    rfl
  have hin : inB ⟨#[123, 91, 45, 48, 49, 50, 51, 52, 53, 54, 55, 56, 57, 116, 102, 110]⟩ c = true := inB_yes (by unfold vstart; omega)
  have HC0 : Hid (0 ≤ c ∧ c ≤ 255 ∧ c ≠ 123 ∧ c ≠ 91) := ⟨by omega, by omega, by omega, by omega⟩
  have hb5 : (ok == ok) = true := by simp
  have hb6 : (ok != ok) = false := by simp
  have hb7 : (deep == deep) = true := by simp
  have hb8 : (deep != deep) = false := by simp
  have hb9 : (wrap64 (mem + 1) != wrap64 (mem + 1)) = false := by simp
  have hb10 : (pl != pl) = false := by simp
  have hn123 : (c == 123) = false := by simp; omega
  have hn91 : (c == 91) = false := by simp; omega
  have hn116 : (c == 116) = false := by simp; omega
  have hn102 : (c == 102) = false := by simp; omega
  have hn110 : (c == 110) = false := by simp; omega
  have hn34 : (c == 34) = false := by simp; omega
  clear hx hnil hrd
  go_enter Try.func8, Try.ntmps8
  go_wp2_with (go_at_call 26; go_in)
  refine (cloneWords_gen a len cap b off w.heap.size xs _ HX.out (by omega) HNIL.out HRD.out (Nat.le_refl _)).mono ?_
  rintro e w1 ⟨a1, rfl, hc1⟩
  have hz1 := hc1.below.size
  have HC1 : Hid (Cloned w w1 a1 w.heap.size xs) := hc1
  clear hc1 HRD HNIL
  go_wp2_with fail
  refine (cloneWords_gen a1 len len w.heap.size 0 w.heap.size xs _ HX.out (by omega) (acc_nil HC1.out HX.out) HC1.out.reads hz1).mono ?_
  rintro e w2 ⟨a2, rfl, hc2⟩
  have hz2 := hc2.below.size
  have HC2 : Hid (Cloned w1 w2 a2 w.heap.size xs) := hc2
  clear hc2
  go_wp2_with fail
  have hcall := laid_plain w w1 w2 a1 a2 xs HC1.out HC2.out (zacc st 1 ok a2 len mem deep pl) rfl HX.out.symm c HC0.out.1 HC0.out.2.1 HC0.out.2.2.1 HC0.out.2.2.2
  rw [HBV.out a2] at hcall
  refine hcall.mono ?_
  clear hcall HC2 HC1 HBV HC0
  rintro e w4 ⟨rfl, hz4, hr2, hr1, hbel⟩
  have c0 : w4.cell? ⟨w2.heap.size, 0, none⟩ = some (.int .u8 11) := blkcell hz4 0
  have c1 : w4.cell? ⟨w2.heap.size, 1, none⟩ = some (.int .i64 1) := blkcell hz4 1
  have c2 : w4.cell? ⟨w2.heap.size, 2, none⟩ = some (.int .u64 ok) := blkcell hz4 2
  have c3 : w4.cell? ⟨w2.heap.size, 3, none⟩ = some (.slice a2 len len) := blkcell hz4 3
  have c4 : w4.cell? ⟨w2.heap.size, 4, none⟩ = some (.int .i64 (wrap64 (mem + 1))) := blkcell hz4 4
  have c5 : w4.cell? ⟨w2.heap.size, 5, none⟩ = some (.int .i64 deep) := blkcell hz4 5
  have c6 : w4.cell? ⟨w2.heap.size, 6, none⟩ = some (.bool true) := blkcell hz4 6
  have c7 : w4.cell? ⟨w2.heap.size, 7, none⟩ = some (.string ⟨#[]⟩) := blkcell hz4 7
  have c8 : w4.cell? ⟨w2.heap.size, 8, none⟩ = some (.int .i64 (pl)) := blkcell hz4 8
  have HR1 : Hid (Reads .u64 w4 a1 w.heap.size 0 xs) := hr1
  have HR2 : Hid (Reads .u64 w4 a2 w1.heap.size 0 xs) := hr2
  clear hz4 hr1 hr2 hz1 hz2
  go_wp2_with (first | (go_at_call 29; refine (inSet_any _ _ _ (by decide)).mono ?_; rintro e w' ⟨rfl, rfl⟩) | (go_at_call 30; refine (wordsEqual_any a2 a1 len len len len w1.heap.size 0 w.heap.size 0 xs xs _ HX.out HX.out (by omega) HR2.out HR1.out).mono ?_; rintro e w5 ⟨rfl, nd, rfl⟩))
  go_ret
  exact ⟨rfl, hbel.trans (below_drewN _ _ _)⟩

set_option maxHeartbeats 2000000 in
set_option maxRecDepth 100000 in
theorem acc_d_not (a : Option Addr) (len cap b off : Nat) (d : Nat) (st ok mem deep pl : Int) (c : Int) (xs : List Int) (w : World) (hx : xs.length = len) (hlen : len ≤ 131072) (hf : Fits d len) (hd2 : d ≤ 100000000) (hd1 : ¬ d = 1) (hc0 : 49 ≤ c) (hc1 : c ≤ 57)
    (hnil : a = none → len = 0 ∧ cap = 0) (hrd : Reads .u64 w a b off xs) :
    Calls Try.prog 8 #[.int .u8 st, .int .i64 d, .int .u64 ok, .slice a len cap, .int .i64 mem, .int .i64 deep, .int .i64 pl, .int .u8 c] w fun e w' => e = .returned (.bool true) ∧ Below w.heap.size w w' := by
  have HX : Hid (xs.length = len) := hx
  have HNIL : Hid (a = none → len = 0 ∧ cap = 0) := hnil
  have HRD : Hid (Reads .u64 w a b off xs) := hrd
  have HBV : Hid (∀ a2, bv c (pre1 (zacc st d ok a2 len mem deep pl)) = (0, { (zacc st d ok a2 len mem deep pl) with st := 11, mem := mem, ms := bits .xor .i64 (-1) pl, name := true, lit := ⟨#[]⟩ })) := by
    intro a2
    rw [pre1_not (show ¬ ((d : Int) = 1) by omega), bv_dig hc0 hc1 _]
    rfl
  have hin : inB ⟨#[123, 91, 45, 48, 49, 50, 51, 52, 53, 54, 55, 56, 57, 116, 102, 110]⟩ c = true := inB_yes (by unfold vstart; omega)
  have HC0 : Hid (0 ≤ c ∧ c ≤ 255 ∧ c ≠ 123 ∧ c ≠ 91) := ⟨by omega, by omega, by omega, by omega⟩
  have hdb : ((d : Int) == 1) = false := by simp; omega
  have hfar : d < 64 ∨ (64 ≤ d ∧ d / 64 - 1 ≤ len) := by unfold Fits at hf; omega
  clear hf hd1
  have hb3 : ((d : Int) == (d : Int)) = true := by simp
  have hb4 : ((d : Int) != (d : Int)) = false := by simp
  have hb5 : (ok == ok) = true := by simp
  have hb6 : (ok != ok) = false := by simp
  have hb7 : (deep == deep) = true := by simp
  have hb8 : (deep != deep) = false := by simp
  have hb9 : (mem != mem) = false := by simp
  have hb10 : (bits .xor .i64 (-1) pl != bits .xor .i64 (-1) pl) = false := by simp
  have hn123 : (c == 123) = false := by simp; omega
  have hn91 : (c == 91) = false := by simp; omega
  have hn116 : (c == 116) = false := by simp; omega
  have hn102 : (c == 102) = false := by simp; omega
  have hn110 : (c == 110) = false := by simp; omega
  have hn34 : (c == 34) = false := by simp; omega
  clear hx hnil hrd
  rcases hfar with hfar | ⟨hfar, hfar2⟩
  · go_enter Try.func8, Try.ntmps8
    go_wp2_with (go_at_call 26; go_in)
    refine (cloneWords_gen a len cap b off w.heap.size xs _ HX.out (by omega) HNIL.out HRD.out (Nat.le_refl _)).mono ?_
    rintro e w1 ⟨a1, rfl, hc1⟩
    have hz1 := hc1.below.size
    have HC1 : Hid (Cloned w w1 a1 w.heap.size xs) := hc1
    clear hc1 HRD HNIL
    go_wp2_with fail
    refine (cloneWords_gen a1 len len w.heap.size 0 w.heap.size xs _ HX.out (by omega) (acc_nil HC1.out HX.out) HC1.out.reads hz1).mono ?_
    rintro e w2 ⟨a2, rfl, hc2⟩
    have hz2 := hc2.below.size
    have HC2 : Hid (Cloned w1 w2 a2 w.heap.size xs) := hc2
    clear hc2
    go_wp2_with fail
    have hcall := laid_plain w w1 w2 a1 a2 xs HC1.out HC2.out (zacc st d ok a2 len mem deep pl) rfl HX.out.symm c HC0.out.1 HC0.out.2.1 HC0.out.2.2.1 HC0.out.2.2.2
    rw [HBV.out a2] at hcall
    refine hcall.mono ?_
    clear hcall HC2 HC1 HBV HC0
    rintro e w4 ⟨rfl, hz4, hr2, hr1, hbel⟩
    have c0 : w4.cell? ⟨w2.heap.size, 0, none⟩ = some (.int .u8 11) := blkcell hz4 0
    have c1 : w4.cell? ⟨w2.heap.size, 1, none⟩ = some (.int .i64 d) := blkcell hz4 1
    have c2 : w4.cell? ⟨w2.heap.size, 2, none⟩ = some (.int .u64 ok) := blkcell hz4 2
    have c3 : w4.cell? ⟨w2.heap.size, 3, none⟩ = some (.slice a2 len len) := blkcell hz4 3
    have c4 : w4.cell? ⟨w2.heap.size, 4, none⟩ = some (.int .i64 (mem)) := blkcell hz4 4
    have c5 : w4.cell? ⟨w2.heap.size, 5, none⟩ = some (.int .i64 deep) := blkcell hz4 5
    have c6 : w4.cell? ⟨w2.heap.size, 6, none⟩ = some (.bool true) := blkcell hz4 6
    have c7 : w4.cell? ⟨w2.heap.size, 7, none⟩ = some (.string ⟨#[]⟩) := blkcell hz4 7
    have c8 : w4.cell? ⟨w2.heap.size, 8, none⟩ = some (.int .i64 (bits .xor .i64 (-1) pl)) := blkcell hz4 8
    have HR1 : Hid (Reads .u64 w4 a1 w.heap.size 0 xs) := hr1
    have HR2 : Hid (Reads .u64 w4 a2 w1.heap.size 0 xs) := hr2
    clear hz4 hr1 hr2 hz1 hz2
    go_wp2_with (first | (go_at_call 29; refine (inSet_any _ _ _ (by decide)).mono ?_; rintro e w' ⟨rfl, rfl⟩) | (go_at_call 30; refine (wordsEqual_any a2 a1 len len len len w1.heap.size 0 w.heap.size 0 xs xs _ HX.out HX.out (by omega) HR2.out HR1.out).mono ?_; rintro e w5 ⟨rfl, nd, rfl⟩))
    go_ret
    exact ⟨rfl, hbel.trans (below_drewN _ _ _)⟩
  · go_enter Try.func8, Try.ntmps8
    go_wp2_with (go_at_call 26; go_in)
    refine (cloneWords_gen a len cap b off w.heap.size xs _ HX.out (by omega) HNIL.out HRD.out (Nat.le_refl _)).mono ?_
    rintro e w1 ⟨a1, rfl, hc1⟩
    have hz1 := hc1.below.size
    have HC1 : Hid (Cloned w w1 a1 w.heap.size xs) := hc1
    clear hc1 HRD HNIL
    go_wp2_with fail
    refine (cloneWords_gen a1 len len w.heap.size 0 w.heap.size xs _ HX.out (by omega) (acc_nil HC1.out HX.out) HC1.out.reads hz1).mono ?_
    rintro e w2 ⟨a2, rfl, hc2⟩
    have hz2 := hc2.below.size
    have HC2 : Hid (Cloned w1 w2 a2 w.heap.size xs) := hc2
    clear hc2
    go_wp2_with fail
    have hcall := laid_plain w w1 w2 a1 a2 xs HC1.out HC2.out (zacc st d ok a2 len mem deep pl) rfl HX.out.symm c HC0.out.1 HC0.out.2.1 HC0.out.2.2.1 HC0.out.2.2.2
    rw [HBV.out a2] at hcall
    refine hcall.mono ?_
    clear hcall HC2 HC1 HBV HC0
    rintro e w4 ⟨rfl, hz4, hr2, hr1, hbel⟩
    have c0 : w4.cell? ⟨w2.heap.size, 0, none⟩ = some (.int .u8 11) := blkcell hz4 0
    have c1 : w4.cell? ⟨w2.heap.size, 1, none⟩ = some (.int .i64 d) := blkcell hz4 1
    have c2 : w4.cell? ⟨w2.heap.size, 2, none⟩ = some (.int .u64 ok) := blkcell hz4 2
    have c3 : w4.cell? ⟨w2.heap.size, 3, none⟩ = some (.slice a2 len len) := blkcell hz4 3
    have c4 : w4.cell? ⟨w2.heap.size, 4, none⟩ = some (.int .i64 (mem)) := blkcell hz4 4
    have c5 : w4.cell? ⟨w2.heap.size, 5, none⟩ = some (.int .i64 deep) := blkcell hz4 5
    have c6 : w4.cell? ⟨w2.heap.size, 6, none⟩ = some (.bool true) := blkcell hz4 6
    have c7 : w4.cell? ⟨w2.heap.size, 7, none⟩ = some (.string ⟨#[]⟩) := blkcell hz4 7
    have c8 : w4.cell? ⟨w2.heap.size, 8, none⟩ = some (.int .i64 (bits .xor .i64 (-1) pl)) := blkcell hz4 8
    have HR1 : Hid (Reads .u64 w4 a1 w.heap.size 0 xs) := hr1
    have HR2 : Hid (Reads .u64 w4 a2 w1.heap.size 0 xs) := hr2
    clear hz4 hr1 hr2 hz1 hz2
    go_wp2_with (first | (go_at_call 29; refine (inSet_any _ _ _ (by decide)).mono ?_; rintro e w' ⟨rfl, rfl⟩) | (go_at_call 30; refine (wordsEqual_any a2 a1 len len len len w1.heap.size 0 w.heap.size 0 xs xs _ HX.out HX.out (by omega) HR2.out HR1.out).mono ?_; rintro e w5 ⟨rfl, nd, rfl⟩))
    go_ret
    exact ⟨rfl, hbel.trans (below_drewN _ _ _)⟩

end Go.Proofs.Qxb6000752a
