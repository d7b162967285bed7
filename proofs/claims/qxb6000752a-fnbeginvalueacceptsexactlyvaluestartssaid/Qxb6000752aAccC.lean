/-
  The walk of FnBeginValueAcceptsExactlyValueStarts (8): the three words.
-/
import Derived.Test.Qxb6000752aAccA
namespace Go.Proofs.Qxb6000752a
open Go.RowKit

set_option maxHeartbeats 2000000 in
set_option maxRecDepth 100000 in
theorem acc_t_one (a : Option Addr) (len cap b off : Nat) (st ok mem deep pl : Int) (xs : List Int) (w : World) (hx : xs.length = len) (hlen : len ≤ 131072)  
    (hnil : a = none → len = 0 ∧ cap = 0) (hrd : Reads .u64 w a b off xs) :
    Calls Try.prog 8 #[.int .u8 st, .int .i64 1, .int .u64 ok, .slice a len cap, .int .i64 mem, .int .i64 deep, .int .i64 pl, .int .u8 116] w fun e w' => e = .returned (.bool true) ∧ Below w.heap.size w w' := by
  have HX : Hid (xs.length = len) := hx
  have HNIL : Hid (a = none → len = 0 ∧ cap = 0) := hnil
  have HRD : Hid (Reads .u64 w a b off xs) := hrd
  have HBV : Hid (∀ a2, bv 116 (pre1 (zacc st 1 ok a2 len mem deep pl)) = (0, { (zacc st 1 ok a2 len mem deep pl) with st := 17, mem := wrap64 (mem + 1), ms := pl, name := true, lit := ⟨#[114, 117, 101]⟩ })) := by
    intro a2
    rw [pre1_one rfl, bv_116 _]
    rfl
  have hin : inB ⟨#[123, 91, 45, 48, 49, 50, 51, 52, 53, 54, 55, 56, 57, 116, 102, 110]⟩ 116 = true := inB_yes (by unfold vstart; omega)
  have HC0 : Hid ((0 : Int) ≤ 116 ∧ (116 : Int) ≤ 255 ∧ (116 : Int) ≠ 123 ∧ (116 : Int) ≠ 91) := ⟨by omega, by omega, by omega, by omega⟩
  have hb5 : (ok == ok) = true := by simp
  have hb6 : (ok != ok) = false := by simp
  have hb7 : (deep == deep) = true := by simp
  have hb8 : (deep != deep) = false := by simp
  have hb9 : (wrap64 (mem + 1) != wrap64 (mem + 1)) = false := by simp
  have hb10 : (pl != pl) = false := by simp
  have kcv : ∀ (W : World) (n : Nat), (convert 23 9 (.slice (some ⟨W.heap.size, 0, none⟩) 1 1)).run Try.prog ((W.drewN n).alloc (.cells #[.int .u8 116] 5)) = .ok (.string ⟨#[116]⟩) ((W.drewN n).alloc (.cells #[.int .u8 116] 5)) := fun W n => conv_one W n 116
  have htl : ((⟨#[116]⟩ : ByteArray) ++ ⟨#[114, 117, 101]⟩).toList = [116, 114, 117, 101] := by rw [ByteArray.toList_eq]; rfl
  clear hx hnil hrd
  go_enter Try.func8, Try.ntmps8
  go_wp2_with (go_at_call 26; go_in)
  refine (cloneWords_gen a len cap b off w.heap.size xs _ HX.out (by omega) HNIL.out HRD.out (Nat.le_refl _)).mono ?_
  rintro e w1 ⟨a1, rfl, hc1⟩
  have hz1 := hc1.below.size
  have HC1 : Hid (Cloned w w1 a1 w.heap.size xs) := hc1
  clear hc1 HRD HNIL
  go_wp2_with fail
  refine (cloneWords_gen a1 len len w.heap.size 0 w.heap.size xs _ HX.out (by omega) (acc_nil HC1.out HX.out) HC1.out.reads hz1).mono ?_
  rintro e w2 ⟨a2, rfl, hc2⟩
  have hz2 := hc2.below.size
  have HC2 : Hid (Cloned w1 w2 a2 w.heap.size xs) := hc2
  clear hc2
  go_wp2_with fail
  have hcall := laid_plain w w1 w2 a1 a2 xs HC1.out HC2.out (zacc st 1 ok a2 len mem deep pl) rfl HX.out.symm 116 HC0.out.1 HC0.out.2.1 HC0.out.2.2.1 HC0.out.2.2.2
  rw [HBV.out a2] at hcall
  refine hcall.mono ?_
  clear hcall HC2 HC1 HBV HC0
  rintro e w4 ⟨rfl, hz4, hr2, hr1, hbel⟩
  have c0 : w4.cell? ⟨w2.heap.size, 0, none⟩ = some (.int .u8 17) := blkcell hz4 0
  have c1 : w4.cell? ⟨w2.heap.size, 1, none⟩ = some (.int .i64 1) := blkcell hz4 1
  have c2 : w4.cell? ⟨w2.heap.size, 2, none⟩ = some (.int .u64 ok) := blkcell hz4 2
  have c3 : w4.cell? ⟨w2.heap.size, 3, none⟩ = some (.slice a2 len len) := blkcell hz4 3
  have c4 : w4.cell? ⟨w2.heap.size, 4, none⟩ = some (.int .i64 (wrap64 (mem + 1))) := blkcell hz4 4
  have c5 : w4.cell? ⟨w2.heap.size, 5, none⟩ = some (.int .i64 deep) := blkcell hz4 5
  have c6 : w4.cell? ⟨w2.heap.size, 6, none⟩ = some (.bool true) := blkcell hz4 6
  have c7 : w4.cell? ⟨w2.heap.size, 7, none⟩ = some (.string ⟨#[114, 117, 101]⟩) := blkcell hz4 7
  have c8 : w4.cell? ⟨w2.heap.size, 8, none⟩ = some (.int .i64 (pl)) := blkcell hz4 8
  have k7 : ∀ n o, ((w4.drewN n).alloc o).cell? ⟨w2.heap.size, 7, none⟩ = some (.string ⟨#[114, 117, 101]⟩) := fun n o => past_cell hz4 n o 7
  have k0 : ∀ n o, ((w4.drewN n).alloc o).cell? ⟨w2.heap.size, 0, none⟩ = some (.int .u8 17) := fun n o => past_cell hz4 n o 0
  have HR1 : Hid (Reads .u64 w4 a1 w.heap.size 0 xs) := hr1
  have HR2 : Hid (Reads .u64 w4 a2 w1.heap.size 0 xs) := hr2
  clear hz4 hr1 hr2 hz1 hz2
  go_wp2_with (first | (go_at_call 29; refine (inSet_any _ _ _ (by decide)).mono ?_; rintro e w' ⟨rfl, rfl⟩) | (go_at_call 30; refine (wordsEqual_any a2 a1 len len len len w1.heap.size 0 w.heap.size 0 xs xs _ HX.out HX.out (by omega) HR2.out HR1.out).mono ?_; rintro e w5 ⟨rfl, nd, rfl⟩))
  go_ret
  exact ⟨rfl, (hbel.trans (below_drewN _ _ _)).alloc (by have := hbel.size; simpa using this) _⟩

set_option maxHeartbeats 2000000 in
set_option maxRecDepth 100000 in
theorem acc_t_not (a : Option Addr) (len cap b off : Nat) (d : Nat) (st ok mem deep pl : Int) (xs : List Int) (w : World) (hx : xs.length = len) (hlen : len ≤ 131072) (hf : Fits d len) (hd2 : d ≤ 100000000) (hd1 : ¬ d = 1) 
    (hnil : a = none → len = 0 ∧ cap = 0) (hrd : Reads .u64 w a b off xs) :
    Calls Try.prog 8 #[.int .u8 st, .int .i64 d, .int .u64 ok, .slice a len cap, .int .i64 mem, .int .i64 deep, .int .i64 pl, .int .u8 116] w fun e w' => e = .returned (.bool true) ∧ Below w.heap.size w w' := by
  have HX : Hid (xs.length = len) := hx
  have HNIL : Hid (a = none → len = 0 ∧ cap = 0) := hnil
  have HRD : Hid (Reads .u64 w a b off xs) := hrd
  have HBV : Hid (∀ a2, bv 116 (pre1 (zacc st d ok a2 len mem deep pl)) = (0, { (zacc st d ok a2 len mem deep pl) with st := 17, mem := mem, ms := bits .xor .i64 (-1) pl, name := true, lit := ⟨#[114, 117, 101]⟩ })) := by
    intro a2
    rw [pre1_not (show ¬ ((d : Int) = 1) by omega), bv_116 _]
    rfl
  have hin : inB ⟨#[123, 91, 45, 48, 49, 50, 51, 52, 53, 54, 55, 56, 57, 116, 102, 110]⟩ 116 = true := inB_yes (by unfold vstart; omega)
  have HC0 : Hid ((0 : Int) ≤ 116 ∧ (116 : Int) ≤ 255 ∧ (116 : Int) ≠ 123 ∧ (116 : Int) ≠ 91) := ⟨by omega, by omega, by omega, by omega⟩
  have hdb : ((d : Int) == 1) = false := by simp; omega
  have hfar : d < 64 ∨ (64 ≤ d ∧ d / 64 - 1 ≤ len) := by unfold Fits at hf; omega
  clear hf hd1
  have hb3 : ((d : Int) == (d : Int)) = true := by simp
  have hb4 : ((d : Int) != (d : Int)) = false := by simp
  have hb5 : (ok == ok) = true := by simp
  have hb6 : (ok != ok) = false := by simp
  have hb7 : (deep == deep) = true := by simp
  have hb8 : (deep != deep) = false := by simp
  have hb9 : (mem != mem) = false := by simp
  have hb10 : (bits .xor .i64 (-1) pl != bits .xor .i64 (-1) pl) = false := by simp
  have kcv : ∀ (W : World) (n : Nat), (convert 23 9 (.slice (some ⟨W.heap.size, 0, none⟩) 1 1)).run Try.prog ((W.drewN n).alloc (.cells #[.int .u8 116] 5)) = .ok (.string ⟨#[116]⟩) ((W.drewN n).alloc (.cells #[.int .u8 116] 5)) := fun W n => conv_one W n 116
  have htl : ((⟨#[116]⟩ : ByteArray) ++ ⟨#[114, 117, 101]⟩).toList = [116, 114, 117, 101] := by rw [ByteArray.toList_eq]; rfl
  clear hx hnil hrd
  rcases hfar with hfar | ⟨hfar, hfar2⟩
  · go_enter Try.func8, Try.ntmps8
    go_wp2_with (go_at_call 26; go_in)
    refine (cloneWords_gen a len cap b off w.heap.size xs _ HX.out (by omega) HNIL.out HRD.out (Nat.le_refl _)).mono ?_
    rintro e w1 ⟨a1, rfl, hc1⟩
    have hz1 := hc1.below.size
    have HC1 : Hid (Cloned w w1 a1 w.heap.size xs) := hc1
    clear hc1 HRD HNIL
    go_wp2_with fail
    refine (cloneWords_gen a1 len len w.heap.size 0 w.heap.size xs _ HX.out (by omega) (acc_nil HC1.out HX.out) HC1.out.reads hz1).mono ?_
    rintro e w2 ⟨a2, rfl, hc2⟩
    have hz2 := hc2.below.size
    have HC2 : Hid (Cloned w1 w2 a2 w.heap.size xs) := hc2
    clear hc2
    go_wp2_with fail
    have hcall := laid_plain w w1 w2 a1 a2 xs HC1.out HC2.out (zacc st d ok a2 len mem deep pl) rfl HX.out.symm 116 HC0.out.1 HC0.out.2.1 HC0.out.2.2.1 HC0.out.2.2.2
    rw [HBV.out a2] at hcall
    refine hcall.mono ?_
    clear hcall HC2 HC1 HBV HC0
    rintro e w4 ⟨rfl, hz4, hr2, hr1, hbel⟩
    have c0 : w4.cell? ⟨w2.heap.size, 0, none⟩ = some (.int .u8 17) := blkcell hz4 0
    have c1 : w4.cell? ⟨w2.heap.size, 1, none⟩ = some (.int .i64 d) := blkcell hz4 1
    have c2 : w4.cell? ⟨w2.heap.size, 2, none⟩ = some (.int .u64 ok) := blkcell hz4 2
    have c3 : w4.cell? ⟨w2.heap.size, 3, none⟩ = some (.slice a2 len len) := blkcell hz4 3
    have c4 : w4.cell? ⟨w2.heap.size, 4, none⟩ = some (.int .i64 (mem)) := blkcell hz4 4
    have c5 : w4.cell? ⟨w2.heap.size, 5, none⟩ = some (.int .i64 deep) := blkcell hz4 5
    have c6 : w4.cell? ⟨w2.heap.size, 6, none⟩ = some (.bool true) := blkcell hz4 6
    have c7 : w4.cell? ⟨w2.heap.size, 7, none⟩ = some (.string ⟨#[114, 117, 101]⟩) := blkcell hz4 7
    have c8 : w4.cell? ⟨w2.heap.size, 8, none⟩ = some (.int .i64 (bits .xor .i64 (-1) pl)) := blkcell hz4 8
    have k7 : ∀ n o, ((w4.drewN n).alloc o).cell? ⟨w2.heap.size, 7, none⟩ = some (.string ⟨#[114, 117, 101]⟩) := fun n o => past_cell hz4 n o 7
    have k0 : ∀ n o, ((w4.drewN n).alloc o).cell? ⟨w2.heap.size, 0, none⟩ = some (.int .u8 17) := fun n o => past_cell hz4 n o 0
    have HR1 : Hid (Reads .u64 w4 a1 w.heap.size 0 xs) := hr1
    have HR2 : Hid (Reads .u64 w4 a2 w1.heap.size 0 xs) := hr2
    clear hz4 hr1 hr2 hz1 hz2
    go_wp2_with (first | (go_at_call 29; refine (inSet_any _ _ _ (by decide)).mono ?_; rintro e w' ⟨rfl, rfl⟩) | (go_at_call 30; refine (wordsEqual_any a2 a1 len len len len w1.heap.size 0 w.heap.size 0 xs xs _ HX.out HX.out (by omega) HR2.out HR1.out).mono ?_; rintro e w5 ⟨rfl, nd, rfl⟩))
    go_ret
    exact ⟨rfl, (hbel.trans (below_drewN _ _ _)).alloc (by have := hbel.size; simpa using this) _⟩
  · go_enter Try.func8, Try.ntmps8
    go_wp2_with (go_at_call 26; go_in)
    refine (cloneWords_gen a len cap b off w.heap.size xs _ HX.out (by omega) HNIL.out HRD.out (Nat.le_refl _)).mono ?_
    rintro e w1 ⟨a1, rfl, hc1⟩
    have hz1 := hc1.below.size
    have HC1 : Hid (Cloned w w1 a1 w.heap.size xs) := hc1
    clear hc1 HRD HNIL
    go_wp2_with fail
    refine (cloneWords_gen a1 len len w.heap.size 0 w.heap.size xs _ HX.out (by omega) (acc_nil HC1.out HX.out) HC1.out.reads hz1).mono ?_
    rintro e w2 ⟨a2, rfl, hc2⟩
    have hz2 := hc2.below.size
    have HC2 : Hid (Cloned w1 w2 a2 w.heap.size xs) := hc2
    clear hc2
    go_wp2_with fail
    have hcall := laid_plain w w1 w2 a1 a2 xs HC1.out HC2.out (zacc st d ok a2 len mem deep pl) rfl HX.out.symm 116 HC0.out.1 HC0.out.2.1 HC0.out.2.2.1 HC0.out.2.2.2
    rw [HBV.out a2] at hcall
    refine hcall.mono ?_
    clear hcall HC2 HC1 HBV HC0
    rintro e w4 ⟨rfl, hz4, hr2, hr1, hbel⟩
    have c0 : w4.cell? ⟨w2.heap.size, 0, none⟩ = some (.int .u8 17) := blkcell hz4 0
    have c1 : w4.cell? ⟨w2.heap.size, 1, none⟩ = some (.int .i64 d) := blkcell hz4 1
    have c2 : w4.cell? ⟨w2.heap.size, 2, none⟩ = some (.int .u64 ok) := blkcell hz4 2
    have c3 : w4.cell? ⟨w2.heap.size, 3, none⟩ = some (.slice a2 len len) := blkcell hz4 3
    have c4 : w4.cell? ⟨w2.heap.size, 4, none⟩ = some (.int .i64 (mem)) := blkcell hz4 4
    have c5 : w4.cell? ⟨w2.heap.size, 5, none⟩ = some (.int .i64 deep) := blkcell hz4 5
    have c6 : w4.cell? ⟨w2.heap.size, 6, none⟩ = some (.bool true) := blkcell hz4 6
    have c7 : w4.cell? ⟨w2.heap.size, 7, none⟩ = some (.string ⟨#[114, 117, 101]⟩) := blkcell hz4 7
    have c8 : w4.cell? ⟨w2.heap.size, 8, none⟩ = some (.int .i64 (bits .xor .i64 (-1) pl)) := blkcell hz4 8
    have k7 : ∀ n o, ((w4.drewN n).alloc o).cell? ⟨w2.heap.size, 7, none⟩ = some (.string ⟨#[114, 117, 101]⟩) := fun n o => past_cell hz4 n o 7
    have k0 : ∀ n o, ((w4.drewN n).alloc o).cell? ⟨w2.heap.size, 0, none⟩ = some (.int .u8 17) := fun n o => past_cell hz4 n o 0
    have HR1 : Hid (Reads .u64 w4 a1 w.heap.size 0 xs) := hr1
    have HR2 : Hid (Reads .u64 w4 a2 w1.heap.size 0 xs) := hr2
    clear hz4 hr1 hr2 hz1 hz2
    go_wp2_with (first | (go_at_call 29; refine (inSet_any _ _ _ (by decide)).mono ?_; rintro e w' ⟨rfl, rfl⟩) | (go_at_call 30; refine (wordsEqual_any a2 a1 len len len len w1.heap.size 0 w.heap.size 0 xs xs _ HX.out HX.out (by omega) HR2.out HR1.out).mono ?_; rintro e w5 ⟨rfl, nd, rfl⟩))
    go_ret
    exact ⟨rfl, (hbel.trans (below_drewN _ _ _)).alloc (by have := hbel.size; simpa using this) _⟩

set_option maxHeartbeats 2000000 in
set_option maxRecDepth 100000 in
theorem acc_f_one (a : Option Addr) (len cap b off : Nat) (st ok mem deep pl : Int) (xs : List Int) (w : World) (hx : xs.length = len) (hlen : len ≤ 131072)  
    (hnil : a = none → len = 0 ∧ cap = 0) (hrd : Reads .u64 w a b off xs) :
    Calls Try.prog 8 #[.int .u8 st, .int .i64 1, .int .u64 ok, .slice a len cap, .int .i64 mem, .int .i64 deep, .int .i64 pl, .int .u8 102] w fun e w' => e = .returned (.bool true) ∧ Below w.heap.size w w' := by
  have HX : Hid (xs.length = len) := hx
  have HNIL : Hid (a = none → len = 0 ∧ cap = 0) := hnil
  have HRD : Hid (Reads .u64 w a b off xs) := hrd
  have HBV : Hid (∀ a2, bv 102 (pre1 (zacc st 1 ok a2 len mem deep pl)) = (0, { (zacc st 1 ok a2 len mem deep pl) with st := 17, mem := wrap64 (mem + 1), ms := pl, name := true, lit := ⟨#[97, 108, 115, 101]⟩ })) := by
    intro a2
    rw [pre1_one rfl, bv_102 _]
    rfl
  have hin : inB ⟨#[123, 91, 45, 48, 49, 50, 51, 52, 53, 54, 55, 56, 57, 116, 102, 110]⟩ 102 = true := inB_yes (by unfold vstart; omega)
  have HC0 : Hid ((0 : Int) ≤ 102 ∧ (102 : Int) ≤ 255 ∧ (102 : Int) ≠ 123 ∧ (102 : Int) ≠ 91) := ⟨by omega, by omega, by omega, by omega⟩
  have hb5 : (ok == ok) = true := by simp
  have hb6 : (ok != ok) = false := by simp
  have hb7 : (deep == deep) = true := by simp
  have hb8 : (deep != deep) = false := by simp
  have hb9 : (wrap64 (mem + 1) != wrap64 (mem + 1)) = false := by simp
  have hb10 : (pl != pl) = false := by simp
  have kcv : ∀ (W : World) (n : Nat), (convert 23 9 (.slice (some ⟨W.heap.size, 0, none⟩) 1 1)).run Try.prog ((W.drewN n).alloc (.cells #[.int .u8 102] 5)) = .ok (.string ⟨#[102]⟩) ((W.drewN n).alloc (.cells #[.int .u8 102] 5)) := fun W n => conv_one W n 102
  have htl : ((⟨#[102]⟩ : ByteArray) ++ ⟨#[97, 108, 115, 101]⟩).toList = [102, 97, 108, 115, 101] := by rw [ByteArray.toList_eq]; rfl
  clear hx hnil hrd
  go_enter Try.func8, Try.ntmps8
  go_wp2_with (go_at_call 26; go_in)
  refine (cloneWords_gen a len cap b off w.heap.size xs _ HX.out (by omega) HNIL.out HRD.out (Nat.le_refl _)).mono ?_
  rintro e w1 ⟨a1, rfl, hc1⟩
  have hz1 := hc1.below.size
  have HC1 : Hid (Cloned w w1 a1 w.heap.size xs) := hc1
  clear hc1 HRD HNIL
  go_wp2_with fail
  refine (cloneWords_gen a1 len len w.heap.size 0 w.heap.size xs _ HX.out (by omega) (acc_nil HC1.out HX.out) HC1.out.reads hz1).mono ?_
  rintro e w2 ⟨a2, rfl, hc2⟩
  have hz2 := hc2.below.size
  have HC2 : Hid (Cloned w1 w2 a2 w.heap.size xs) := hc2
  clear hc2
  go_wp2_with fail
  have hcall := laid_plain w w1 w2 a1 a2 xs HC1.out HC2.out (zacc st 1 ok a2 len mem deep pl) rfl HX.out.symm 102 HC0.out.1 HC0.out.2.1 HC0.out.2.2.1 HC0.out.2.2.2
  rw [HBV.out a2] at hcall
  refine hcall.mono ?_
  clear hcall HC2 HC1 HBV HC0
  rintro e w4 ⟨rfl, hz4, hr2, hr1, hbel⟩
  have c0 : w4.cell? ⟨w2.heap.size, 0, none⟩ = some (.int .u8 17) := blkcell hz4 0
  have c1 : w4.cell? ⟨w2.heap.size, 1, none⟩ = some (.int .i64 1) := blkcell hz4 1
  have c2 : w4.cell? ⟨w2.heap.size, 2, none⟩ = some (.int .u64 ok) := blkcell hz4 2
  have c3 : w4.cell? ⟨w2.heap.size, 3, none⟩ = some (.slice a2 len len) := blkcell hz4 3
  have c4 : w4.cell? ⟨w2.heap.size, 4, none⟩ = some (.int .i64 (wrap64 (mem + 1))) := blkcell hz4 4
  have c5 : w4.cell? ⟨w2.heap.size, 5, none⟩ = some (.int .i64 deep) := blkcell hz4 5
  have c6 : w4.cell? ⟨w2.heap.size, 6, none⟩ = some (.bool true) := blkcell hz4 6
  have c7 : w4.cell? ⟨w2.heap.size, 7, none⟩ = some (.string ⟨#[97, 108, 115, 101]⟩) := blkcell hz4 7
  have c8 : w4.cell? ⟨w2.heap.size, 8, none⟩ = some (.int .i64 (pl)) := blkcell hz4 8
  have k7 : ∀ n o, ((w4.drewN n).alloc o).cell? ⟨w2.heap.size, 7, none⟩ = some (.string ⟨#[97, 108, 115, 101]⟩) := fun n o => past_cell hz4 n o 7
  have k0 : ∀ n o, ((w4.drewN n).alloc o).cell? ⟨w2.heap.size, 0, none⟩ = some (.int .u8 17) := fun n o => past_cell hz4 n o 0
  have HR1 : Hid (Reads .u64 w4 a1 w.heap.size 0 xs) := hr1
  have HR2 : Hid (Reads .u64 w4 a2 w1.heap.size 0 xs) := hr2
  clear hz4 hr1 hr2 hz1 hz2
  go_wp2_with (first | (go_at_call 29; refine (inSet_any _ _ _ (by decide)).mono ?_; rintro e w' ⟨rfl, rfl⟩) | (go_at_call 30; refine (wordsEqual_any a2 a1 len len len len w1.heap.size 0 w.heap.size 0 xs xs _ HX.out HX.out (by omega) HR2.out HR1.out).mono ?_; rintro e w5 ⟨rfl, nd, rfl⟩))
  go_ret
  exact ⟨rfl, (hbel.trans (below_drewN _ _ _)).alloc (by have := hbel.size; simpa using this) _⟩

set_option maxHeartbeats 2000000 in
set_option maxRecDepth 100000 in
theorem acc_f_not (a : Option Addr) (len cap b off : Nat) (d : Nat) (st ok mem deep pl : Int) (xs : List Int) (w : World) (hx : xs.length = len) (hlen : len ≤ 131072) (hf : Fits d len) (hd2 : d ≤ 100000000) (hd1 : ¬ d = 1) 
    (hnil : a = none → len = 0 ∧ cap = 0) (hrd : Reads .u64 w a b off xs) :
    Calls Try.prog 8 #[.int .u8 st, .int .i64 d, .int .u64 ok, .slice a len cap, .int .i64 mem, .int .i64 deep, .int .i64 pl, .int .u8 102] w fun e w' => e = .returned (.bool true) ∧ Below w.heap.size w w' := by
  have HX : Hid (xs.length = len) := hx
  have HNIL : Hid (a = none → len = 0 ∧ cap = 0) := hnil
  have HRD : Hid (Reads .u64 w a b off xs) := hrd
  have HBV : Hid (∀ a2, bv 102 (pre1 (zacc st d ok a2 len mem deep pl)) = (0, { (zacc st d ok a2 len mem deep pl) with st := 17, mem := mem, ms := bits .xor .i64 (-1) pl, name := true, lit := ⟨#[97, 108, 115, 101]⟩ })) := by
    intro a2
    rw [pre1_not (show ¬ ((d : Int) = 1) by omega), bv_102 _]
    rfl
  have hin : inB ⟨#[123, 91, 45, 48, 49, 50, 51, 52, 53, 54, 55, 56, 57, 116, 102, 110]⟩ 102 = true := inB_yes (by unfold vstart; omega)
  have HC0 : Hid ((0 : Int) ≤ 102 ∧ (102 : Int) ≤ 255 ∧ (102 : Int) ≠ 123 ∧ (102 : Int) ≠ 91) := ⟨by omega, by omega, by omega, by omega⟩
  have hdb : ((d : Int) == 1) = false := by simp; omega
  have hfar : d < 64 ∨ (64 ≤ d ∧ d / 64 - 1 ≤ len) := by unfold Fits at hf; omega
  clear hf hd1
  have hb3 : ((d : Int) == (d : Int)) = true := by simp
  have hb4 : ((d : Int) != (d : Int)) = false := by simp
  have hb5 : (ok == ok) = true := by simp
  have hb6 : (ok != ok) = false := by simp
  have hb7 : (deep == deep) = true := by simp
  have hb8 : (deep != deep) = false := by simp
  have hb9 : (mem != mem) = false := by simp
  have hb10 : (bits .xor .i64 (-1) pl != bits .xor .i64 (-1) pl) = false := by simp
  have kcv : ∀ (W : World) (n : Nat), (convert 23 9 (.slice (some ⟨W.heap.size, 0, none⟩) 1 1)).run Try.prog ((W.drewN n).alloc (.cells #[.int .u8 102] 5)) = .ok (.string ⟨#[102]⟩) ((W.drewN n).alloc (.cells #[.int .u8 102] 5)) := fun W n => conv_one W n 102
  have htl : ((⟨#[102]⟩ : ByteArray) ++ ⟨#[97, 108, 115, 101]⟩).toList = [102, 97, 108, 115, 101] := by rw [ByteArray.toList_eq]; rfl
  clear hx hnil hrd
  rcases hfar with hfar | ⟨hfar, hfar2⟩
  · go_enter Try.func8, Try.ntmps8
    go_wp2_with (go_at_call 26; go_in)
    refine (cloneWords_gen a len cap b off w.heap.size xs _ HX.out (by omega) HNIL.out HRD.out (Nat.le_refl _)).mono ?_
    rintro e w1 ⟨a1, rfl, hc1⟩
    have hz1 := hc1.below.size
    have HC1 : Hid (Cloned w w1 a1 w.heap.size xs) := hc1
    clear hc1 HRD HNIL
    go_wp2_with fail
    refine (cloneWords_gen a1 len len w.heap.size 0 w.heap.size xs _ HX.out (by omega) (acc_nil HC1.out HX.out) HC1.out.reads hz1).mono ?_
    rintro e w2 ⟨a2, rfl, hc2⟩
    have hz2 := hc2.below.size
    have HC2 : Hid (Cloned w1 w2 a2 w.heap.size xs) := hc2
    clear hc2
    go_wp2_with fail
    have hcall := laid_plain w w1 w2 a1 a2 xs HC1.out HC2.out (zacc st d ok a2 len mem deep pl) rfl HX.out.symm 102 HC0.out.1 HC0.out.2.1 HC0.out.2.2.1 HC0.out.2.2.2
    rw [HBV.out a2] at hcall
    refine hcall.mono ?_
    clear hcall HC2 HC1 HBV HC0
    rintro e w4 ⟨rfl, hz4, hr2, hr1, hbel⟩
    have c0 : w4.cell? ⟨w2.heap.size, 0, none⟩ = some (.int .u8 17) := blkcell hz4 0
    have c1 : w4.cell? ⟨w2.heap.size, 1, none⟩ = some (.int .i64 d) := blkcell hz4 1
    have c2 : w4.cell? ⟨w2.heap.size, 2, none⟩ = some (.int .u64 ok) := blkcell hz4 2
    have c3 : w4.cell? ⟨w2.heap.size, 3, none⟩ = some (.slice a2 len len) := blkcell hz4 3
    have c4 : w4.cell? ⟨w2.heap.size, 4, none⟩ = some (.int .i64 (mem)) := blkcell hz4 4
    have c5 : w4.cell? ⟨w2.heap.size, 5, none⟩ = some (.int .i64 deep) := blkcell hz4 5
    have c6 : w4.cell? ⟨w2.heap.size, 6, none⟩ = some (.bool true) := blkcell hz4 6
    have c7 : w4.cell? ⟨w2.heap.size, 7, none⟩ = some (.string ⟨#[97, 108, 115, 101]⟩) := blkcell hz4 7
    have c8 : w4.cell? ⟨w2.heap.size, 8, none⟩ = some (.int .i64 (bits .xor .i64 (-1) pl)) := blkcell hz4 8
    have k7 : ∀ n o, ((w4.drewN n).alloc o).cell? ⟨w2.heap.size, 7, none⟩ = some (.string ⟨#[97, 108, 115, 101]⟩) := fun n o => past_cell hz4 n o 7
    have k0 : ∀ n o, ((w4.drewN n).alloc o).cell? ⟨w2.heap.size, 0, none⟩ = some (.int .u8 17) := fun n o => past_cell hz4 n o 0
    have HR1 : Hid (Reads .u64 w4 a1 w.heap.size 0 xs) := hr1
    have HR2 : Hid (Reads .u64 w4 a2 w1.heap.size 0 xs) := hr2
    clear hz4 hr1 hr2 hz1 hz2
    go_wp2_with (first | (go_at_call 29; refine (inSet_any _ _ _ (by decide)).mono ?_; rintro e w' ⟨rfl, rfl⟩) | (go_at_call 30; refine (wordsEqual_any a2 a1 len len len len w1.heap.size 0 w.heap.size 0 xs xs _ HX.out HX.out (by omega) HR2.out HR1.out).mono ?_; rintro e w5 ⟨rfl, nd, rfl⟩))
    go_ret
    exact ⟨rfl, (hbel.trans (below_drewN _ _ _)).alloc (by have := hbel.size; simpa using this) _⟩
  · go_enter Try.func8, Try.ntmps8
    go_wp2_with (go_at_call 26; go_in)
    refine (cloneWords_gen a len cap b off w.heap.size xs _ HX.out (by omega) HNIL.out HRD.out (Nat.le_refl _)).mono ?_
    rintro e w1 ⟨a1, rfl, hc1⟩
    have hz1 := hc1.below.size
    have HC1 : Hid (Cloned w w1 a1 w.heap.size xs) := hc1
    clear hc1 HRD HNIL
    go_wp2_with fail
    refine (cloneWords_gen a1 len len w.heap.size 0 w.heap.size xs _ HX.out (by omega) (acc_nil HC1.out HX.out) HC1.out.reads hz1).mono ?_
    rintro e w2 ⟨a2, rfl, hc2⟩
    have hz2 := hc2.below.size
    have HC2 : Hid (Cloned w1 w2 a2 w.heap.size xs) := hc2
    clear hc2
    go_wp2_with fail
    have hcall := laid_plain w w1 w2 a1 a2 xs HC1.out HC2.out (zacc st d ok a2 len mem deep pl) rfl HX.out.symm 102 HC0.out.1 HC0.out.2.1 HC0.out.2.2.1 HC0.out.2.2.2
    rw [HBV.out a2] at hcall
    refine hcall.mono ?_
    clear hcall HC2 HC1 HBV HC0
    rintro e w4 ⟨rfl, hz4, hr2, hr1, hbel⟩
    have c0 : w4.cell? ⟨w2.heap.size, 0, none⟩ = some (.int .u8 17) := blkcell hz4 0
    have c1 : w4.cell? ⟨w2.heap.size, 1, none⟩ = some (.int .i64 d) := blkcell hz4 1
    have c2 : w4.cell? ⟨w2.heap.size, 2, none⟩ = some (.int .u64 ok) := blkcell hz4 2
    have c3 : w4.cell? ⟨w2.heap.size, 3, none⟩ = some (.slice a2 len len) := blkcell hz4 3
    have c4 : w4.cell? ⟨w2.heap.size, 4, none⟩ = some (.int .i64 (mem)) := blkcell hz4 4
    have c5 : w4.cell? ⟨w2.heap.size, 5, none⟩ = some (.int .i64 deep) := blkcell hz4 5
    have c6 : w4.cell? ⟨w2.heap.size, 6, none⟩ = some (.bool true) := blkcell hz4 6
    have c7 : w4.cell? ⟨w2.heap.size, 7, none⟩ = some (.string ⟨#[97, 108, 115, 101]⟩) := blkcell hz4 7
    have c8 : w4.cell? ⟨w2.heap.size, 8, none⟩ = some (.int .i64 (bits .xor .i64 (-1) pl)) := blkcell hz4 8
    have k7 : ∀ n o, ((w4.drewN n).alloc o).cell? ⟨w2.heap.size, 7, none⟩ = some (.string ⟨#[97, 108, 115, 101]⟩) := fun n o => past_cell hz4 n o 7
    have k0 : ∀ n o, ((w4.drewN n).alloc o).cell? ⟨w2.heap.size, 0, none⟩ = some (.int .u8 17) := fun n o => past_cell hz4 n o 0
    have HR1 : Hid (Reads .u64 w4 a1 w.heap.size 0 xs) := hr1
    have HR2 : Hid (Reads .u64 w4 a2 w1.heap.size 0 xs) := hr2
    clear hz4 hr1 hr2 hz1 hz2
    go_wp2_with (first | (go_at_call 29; refine (inSet_any _ _ _ (by decide)).mono ?_; rintro e w' ⟨rfl, rfl⟩) | (go_at_call 30; refine (wordsEqual_any a2 a1 len len len len w1.heap.size 0 w.heap.size 0 xs xs _ HX.out HX.out (by omega) HR2.out HR1.out).mono ?_; rintro e w5 ⟨rfl, nd, rfl⟩))
    go_ret
    exact ⟨rfl, (hbel.trans (below_drewN _ _ _)).alloc (by have := hbel.size; simpa using this) _⟩

set_option maxHeartbeats 2000000 in
set_option maxRecDepth 100000 in
theorem acc_n_one (a : Option Addr) (len cap b off : Nat) (st ok mem deep pl : Int) (xs : List Int) (w : World) (hx : xs.length = len) (hlen : len ≤ 131072)  
    (hnil : a = none → len = 0 ∧ cap = 0) (hrd : Reads .u64 w a b off xs) :
    Calls Try.prog 8 #[.int .u8 st, .int .i64 1, .int .u64 ok, .slice a len cap, .int .i64 mem, .int .i64 deep, .int .i64 pl, .int .u8 110] w fun e w' => e = .returned (.bool true) ∧ Below w.heap.size w w' := by
  have HX : Hid (xs.length = len) := hx
  have HNIL : Hid (a = none → len = 0 ∧ cap = 0) := hnil
  have HRD : Hid (Reads .u64 w a b off xs) := hrd
  have HBV : Hid (∀ a2, bv 110 (pre1 (zacc st 1 ok a2 len mem deep pl)) = (0, { (zacc st 1 ok a2 len mem deep pl) with st := 17, mem := wrap64 (mem + 1), ms := pl, name := true, lit := ⟨#[117, 108, 108]⟩ })) := by
    intro a2
    rw [pre1_one rfl, bv_110 _]
    rfl
  have hin : inB ⟨#[123, 91, 45, 48, 49, 50, 51, 52, 53, 54, 55, 56, 57, 116, 102, 110]⟩ 110 = true := inB_yes (by unfold vstart; omega)
  have HC0 : Hid ((0 : Int) ≤ 110 ∧ (110 : Int) ≤ 255 ∧ (110 : Int) ≠ 123 ∧ (110 : Int) ≠ 91) := ⟨by omega, by omega, by omega, by omega⟩
  have hb5 : (ok == ok) = true := by simp
  have hb6 : (ok != ok) = false := by simp
  have hb7 : (deep == deep) = true := by simp
  have hb8 : (deep != deep) = false := by simp
  have hb9 : (wrap64 (mem + 1) != wrap64 (mem + 1)) = false := by simp
  have hb10 : (pl != pl) = false := by simp
  have kcv : ∀ (W : World) (n : Nat), (convert 23 9 (.slice (some ⟨W.heap.size, 0, none⟩) 1 1)).run Try.prog ((W.drewN n).alloc (.cells #[.int .u8 110] 5)) = .ok (.string ⟨#[110]⟩) ((W.drewN n).alloc (.cells #[.int .u8 110] 5)) := fun W n => conv_one W n 110
  have htl : ((⟨#[110]⟩ : ByteArray) ++ ⟨#[117, 108, 108]⟩).toList = [110, 117, 108, 108] := by rw [ByteArray.toList_eq]; rfl
  clear hx hnil hrd
  go_enter Try.func8, Try.ntmps8
  go_wp2_with (go_at_call 26; go_in)
  refine (cloneWords_gen a len cap b off w.heap.size xs _ HX.out (by omega) HNIL.out HRD.out (Nat.le_refl _)).mono ?_
  rintro e w1 ⟨a1, rfl, hc1⟩
  have hz1 := hc1.below.size
  have HC1 : Hid (Cloned w w1 a1 w.heap.size xs) := hc1
  clear hc1 HRD HNIL
  go_wp2_with fail
  refine (cloneWords_gen a1 len len w.heap.size 0 w.heap.size xs _ HX.out (by omega) (acc_nil HC1.out HX.out) HC1.out.reads hz1).mono ?_
  rintro e w2 ⟨a2, rfl, hc2⟩
  have hz2 := hc2.below.size
  have HC2 : Hid (Cloned w1 w2 a2 w.heap.size xs) := hc2
  clear hc2
  go_wp2_with fail
  have hcall := laid_plain w w1 w2 a1 a2 xs HC1.out HC2.out (zacc st 1 ok a2 len mem deep pl) rfl HX.out.symm 110 HC0.out.1 HC0.out.2.1 HC0.out.2.2.1 HC0.out.2.2.2
  rw [HBV.out a2] at hcall
  refine hcall.mono ?_
  clear hcall HC2 HC1 HBV HC0
  rintro e w4 ⟨rfl, hz4, hr2, hr1, hbel⟩
  have c0 : w4.cell? ⟨w2.heap.size, 0, none⟩ = some (.int .u8 17) := blkcell hz4 0
  have c1 : w4.cell? ⟨w2.heap.size, 1, none⟩ = some (.int .i64 1) := blkcell hz4 1
  have c2 : w4.cell? ⟨w2.heap.size, 2, none⟩ = some (.int .u64 ok) := blkcell hz4 2
  have c3 : w4.cell? ⟨w2.heap.size, 3, none⟩ = some (.slice a2 len len) := blkcell hz4 3
  have c4 : w4.cell? ⟨w2.heap.size, 4, none⟩ = some (.int .i64 (wrap64 (mem + 1))) := blkcell hz4 4
  have c5 : w4.cell? ⟨w2.heap.size, 5, none⟩ = some (.int .i64 deep) := blkcell hz4 5
  have c6 : w4.cell? ⟨w2.heap.size, 6, none⟩ = some (.bool true) := blkcell hz4 6
  have c7 : w4.cell? ⟨w2.heap.size, 7, none⟩ = some (.string ⟨#[117, 108, 108]⟩) := blkcell hz4 7
  have c8 : w4.cell? ⟨w2.heap.size, 8, none⟩ = some (.int .i64 (pl)) := blkcell hz4 8
  have k7 : ∀ n o, ((w4.drewN n).alloc o).cell? ⟨w2.heap.size, 7, none⟩ = some (.string ⟨#[117, 108, 108]⟩) := fun n o => past_cell hz4 n o 7
  have k0 : ∀ n o, ((w4.drewN n).alloc o).cell? ⟨w2.heap.size, 0, none⟩ = some (.int .u8 17) := fun n o => past_cell hz4 n o 0
  have HR1 : Hid (Reads .u64 w4 a1 w.heap.size 0 xs) := hr1
  have HR2 : Hid (Reads .u64 w4 a2 w1.heap.size 0 xs) := hr2
  clear hz4 hr1 hr2 hz1 hz2
  go_wp2_with (first | (go_at_call 29; refine (inSet_any _ _ _ (by decide)).mono ?_; rintro e w' ⟨rfl, rfl⟩) | (go_at_call 30; refine (wordsEqual_any a2 a1 len len len len w1.heap.size 0 w.heap.size 0 xs xs _ HX.out HX.out (by omega) HR2.out HR1.out).mono ?_; rintro e w5 ⟨rfl, nd, rfl⟩))
  go_ret
  exact ⟨rfl, (hbel.trans (below_drewN _ _ _)).alloc (by have := hbel.size; simpa using this) _⟩

set_option maxHeartbeats 2000000 in
set_option maxRecDepth 100000 in
theorem acc_n_not (a : Option Addr) (len cap b off : Nat) (d : Nat) (st ok mem deep pl : Int) (xs : List Int) (w : World) (hx : xs.length = len) (hlen : len ≤ 131072) (hf : Fits d len) (hd2 : d ≤ 100000000) (hd1 : ¬ d = 1) 
    (hnil : a = none → len = 0 ∧ cap = 0) (hrd : Reads .u64 w a b off xs) :
    Calls Try.prog 8 #[.int .u8 st, .int .i64 d, .int .u64 ok, .slice a len cap, .int .i64 mem, .int .i64 deep, .int .i64 pl, .int .u8 110] w fun e w' => e = .returned (.bool true) ∧ Below w.heap.size w w' := by
  have HX : Hid (xs.length = len) := hx
  have HNIL : Hid (a = none → len = 0 ∧ cap = 0) := hnil
  have HRD : Hid (Reads .u64 w a b off xs) := hrd
  have HBV : Hid (∀ a2, bv 110 (pre1 (zacc st d ok a2 len mem deep pl)) = (0, { (zacc st d ok a2 len mem deep pl) with st := 17, mem := mem, ms := bits .xor .i64 (-1) pl, name := true, lit := ⟨#[117, 108, 108]⟩ })) := by
    intro a2
    rw [pre1_not (show ¬ ((d : Int) = 1) by omega), bv_110 _]
    rfl
  have hin : inB ⟨#[123, 91, 45, 48, 49, 50, 51, 52, 53, 54, 55, 56, 57, 116, 102, 110]⟩ 110 = true := inB_yes (by unfold vstart; omega)
  have HC0 : Hid ((0 : Int) ≤ 110 ∧ (110 : Int) ≤ 255 ∧ (110 : Int) ≠ 123 ∧ (110 : Int) ≠ 91) := ⟨by omega, by omega, by omega, by omega⟩
  have hdb : ((d : Int) == 1) = false := by simp; omega
  have hfar : d < 64 ∨ (64 ≤ d ∧ d / 64 - 1 ≤ len) := by unfold Fits at hf; omega
  clear hf hd1
  have hb3 : ((d : Int) == (d : Int)) = true := by simp
  have hb4 : ((d : Int) != (d : Int)) = false := by simp
  have hb5 : (ok == ok) = true := by simp
  have hb6 : (ok != ok) = false := by simp
  have hb7 : (deep == deep) = true := by simp
  have hb8 : (deep != deep) = false := by simp
  have hb9 : (mem != mem) = false := by simp
  have hb10 : (bits .xor .i64 (-1) pl != bits .xor .i64 (-1) pl) = false := by simp
  have kcv : ∀ (W : World) (n : Nat), (convert 23 9 (.slice (some ⟨W.heap.size, 0, none⟩) 1 1)).run Try.prog ((W.drewN n).alloc (.cells #[.int .u8 110] 5)) = .ok (.string ⟨#[110]⟩) ((W.drewN n).alloc (.cells #[.int .u8 110] 5)) := fun W n => conv_one W n 110
  have htl : ((⟨#[110]⟩ : ByteArray) ++ ⟨#[117, 108, 108]⟩).toList = [110, 117, 108, 108] := by rw [ByteArray.toList_eq]; rfl
  clear hx hnil hrd
  rcases hfar with hfar | ⟨hfar, hfar2⟩
  · go_enter Try.func8, Try.ntmps8
    go_wp2_with (go_at_call 26; go_in)
    refine (cloneWords_gen a len cap b off w.heap.size xs _ HX.out (by omega) HNIL.out HRD.out (Nat.le_refl _)).mono ?_
    rintro e w1 ⟨a1, rfl, hc1⟩
    have hz1 := hc1.below.size
    have HC1 : Hid (Cloned w w1 a1 w.heap.size xs) := hc1
    clear hc1 HRD HNIL
    go_wp2_with fail
    refine (cloneWords_gen a1 len len w.heap.size 0 w.heap.size xs _ HX.out (by omega) (acc_nil HC1.out HX.out) HC1.out.reads hz1).mono ?_
    rintro e w2 ⟨a2, rfl, hc2⟩
    have hz2 := hc2.below.size
    have HC2 : Hid (Cloned w1 w2 a2 w.heap.size xs) := hc2
    clear hc2
    go_wp2_with fail
    have hcall := laid_plain w w1 w2 a1 a2 xs HC1.out HC2.out (zacc st d ok a2 len mem deep pl) rfl HX.out.symm 110 HC0.out.1 HC0.out.2.1 HC0.out.2.2.1 HC0.out.2.2.2
    rw [HBV.out a2] at hcall
    refine hcall.mono ?_
    clear hcall HC2 HC1 HBV HC0
    rintro e w4 ⟨rfl, hz4, hr2, hr1, hbel⟩
    have c0 : w4.cell? ⟨w2.heap.size, 0, none⟩ = some (.int .u8 17) := blkcell hz4 0
    have c1 : w4.cell? ⟨w2.heap.size, 1, none⟩ = some (.int .i64 d) := blkcell hz4 1
    have c2 : w4.cell? ⟨w2.heap.size, 2, none⟩ = some (.int .u64 ok) := blkcell hz4 2
    have c3 : w4.cell? ⟨w2.heap.size, 3, none⟩ = some (.slice a2 len len) := blkcell hz4 3
    have c4 : w4.cell? ⟨w2.heap.size, 4, none⟩ = some (.int .i64 (mem)) := blkcell hz4 4
    have c5 : w4.cell? ⟨w2.heap.size, 5, none⟩ = some (.int .i64 deep) := blkcell hz4 5
    have c6 : w4.cell? ⟨w2.heap.size, 6, none⟩ = some (.bool true) := blkcell hz4 6
    have c7 : w4.cell? ⟨w2.heap.size, 7, none⟩ = some (.string ⟨#[117, 108, 108]⟩) := blkcell hz4 7
    have c8 : w4.cell? ⟨w2.heap.size, 8, none⟩ = some (.int .i64 (bits .xor .i64 (-1) pl)) := blkcell hz4 8
    have k7 : ∀ n o, ((w4.drewN n).alloc o).cell? ⟨w2.heap.size, 7, none⟩ = some (.string ⟨#[117, 108, 108]⟩) := fun n o => past_cell hz4 n o 7
    have k0 : ∀ n o, ((w4.drewN n).alloc o).cell? ⟨w2.heap.size, 0, none⟩ = some (.int .u8 17) := fun n o => past_cell hz4 n o 0
    have HR1 : Hid (Reads .u64 w4 a1 w.heap.size 0 xs) := hr1
    have HR2 : Hid (Reads .u64 w4 a2 w1.heap.size 0 xs) := hr2
    clear hz4 hr1 hr2 hz1 hz2
    go_wp2_with (first | (go_at_call 29; refine (inSet_any _ _ _ (by decide)).mono ?_; rintro e w' ⟨rfl, rfl⟩) | (go_at_call 30; refine (wordsEqual_any a2 a1 len len len len w1.heap.size 0 w.heap.size 0 xs xs _ HX.out HX.out (by omega) HR2.out HR1.out).mono ?_; rintro e w5 ⟨rfl, nd, rfl⟩))
    go_ret
    exact ⟨rfl, (hbel.trans (below_drewN _ _ _)).alloc (by have := hbel.size; simpa using this) _⟩
  · go_enter Try.func8, Try.ntmps8
    go_wp2_with (go_at_call 26; go_in)
    refine (cloneWords_gen a len cap b off w.heap.size xs _ HX.out (by omega) HNIL.out HRD.out (Nat.le_refl _)).mono ?_
    rintro e w1 ⟨a1, rfl, hc1⟩
    have hz1 := hc1.below.size
    have HC1 : Hid (Cloned w w1 a1 w.heap.size xs) := hc1
    clear hc1 HRD HNIL
    go_wp2_with fail
    refine (cloneWords_gen a1 len len w.heap.size 0 w.heap.size xs _ HX.out (by omega) (acc_nil HC1.out HX.out) HC1.out.reads hz1).mono ?_
    rintro e w2 ⟨a2, rfl, hc2⟩
    have hz2 := hc2.below.size
    have HC2 : Hid (Cloned w1 w2 a2 w.heap.size xs) := hc2
    clear hc2
    go_wp2_with fail
    have hcall := laid_plain w w1 w2 a1 a2 xs HC1.out HC2.out (zacc st d ok a2 len mem deep pl) rfl HX.out.symm 110 HC0.out.1 HC0.out.2.1 HC0.out.2.2.1 HC0.out.2.2.2
    rw [HBV.out a2] at hcall
    refine hcall.mono ?_
    clear hcall HC2 HC1 HBV HC0
    rintro e w4 ⟨rfl, hz4, hr2, hr1, hbel⟩
    have c0 : w4.cell? ⟨w2.heap.size, 0, none⟩ = some (.int .u8 17) := blkcell hz4 0
    have c1 : w4.cell? ⟨w2.heap.size, 1, none⟩ = some (.int .i64 d) := blkcell hz4 1
    have c2 : w4.cell? ⟨w2.heap.size, 2, none⟩ = some (.int .u64 ok) := blkcell hz4 2
    have c3 : w4.cell? ⟨w2.heap.size, 3, none⟩ = some (.slice a2 len len) := blkcell hz4 3
    have c4 : w4.cell? ⟨w2.heap.size, 4, none⟩ = some (.int .i64 (mem)) := blkcell hz4 4
    have c5 : w4.cell? ⟨w2.heap.size, 5, none⟩ = some (.int .i64 deep) := blkcell hz4 5
    have c6 : w4.cell? ⟨w2.heap.size, 6, none⟩ = some (.bool true) := blkcell hz4 6
    have c7 : w4.cell? ⟨w2.heap.size, 7, none⟩ = some (.string ⟨#[117, 108, 108]⟩) := blkcell hz4 7
    have c8 : w4.cell? ⟨w2.heap.size, 8, none⟩ = some (.int .i64 (bits .xor .i64 (-1) pl)) := blkcell hz4 8
    have k7 : ∀ n o, ((w4.drewN n).alloc o).cell? ⟨w2.heap.size, 7, none⟩ = some (.string ⟨#[117, 108, 108]⟩) := fun n o => past_cell hz4 n o 7
    have k0 : ∀ n o, ((w4.drewN n).alloc o).cell? ⟨w2.heap.size, 0, none⟩ = some (.int .u8 17) := fun n o => past_cell hz4 n o 0
    have HR1 : Hid (Reads .u64 w4 a1 w.heap.size 0 xs) := hr1
    have HR2 : Hid (Reads .u64 w4 a2 w1.heap.size 0 xs) := hr2
    clear hz4 hr1 hr2 hz1 hz2
    go_wp2_with (first | (go_at_call 29; refine (inSet_any _ _ _ (by decide)).mono ?_; rintro e w' ⟨rfl, rfl⟩) | (go_at_call 30; refine (wordsEqual_any a2 a1 len len len len w1.heap.size 0 w.heap.size 0 xs xs _ HX.out HX.out (by omega) HR2.out HR1.out).mono ?_; rintro e w5 ⟨rfl, nd, rfl⟩))
    go_ret
    exact ⟨rfl, (hbel.trans (below_drewN _ _ _)).alloc (by have := hbel.size; simpa using this) _⟩

end Go.Proofs.Qxb6000752a
