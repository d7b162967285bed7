/-
  The walk of FnBeginValueAcceptsExactlyValueStarts (8): brackets, and bytes that begin no value.
-/
import Derived.Test.Qxb6000752aLaid
import Derived.Test.Qxb6000752aHexSet
import Derived.Test.Qxb6000752aEq
import Derived.Laws.BytesArg
namespace Go.Proofs.Qxb6000752a
open Go.RowKit

/-- The scanner that the law lays. -/
def zacc (st : Int) (d : Nat) (ok : Int) (ka : Option Addr) (n : Nat) (mem deep pl : Int) : Sc :=
  { st := st, dep := d, ok := ok, ka := ka, kn := n, kc := n, mem := mem, deep := deep, name := true, lit := ⟨#[]⟩, ms := bits .xor .i64 (-1) pl, pl := pl }
/-- The bytes that begin a value, the quote aside. -/
def vstart (c : Int) : Prop := c = 123 ∨ c = 91 ∨ c = 45 ∨ (48 ≤ c ∧ c ≤ 57) ∨ c = 116 ∨ c = 102 ∨ c = 110
theorem inB_vs (c : Int) : inB ⟨#[123, 91, 45, 48, 49, 50, 51, 52, 53, 54, 55, 56, 57, 116, 102, 110]⟩ c = true ↔ vstart c := by
  simp only [inB, List.any_cons, List.any_nil, Bool.or_eq_true, beq_iff_eq]
  unfold vstart
  simp
  omega
theorem inB_yes {c : Int} (h : vstart c) : inB ⟨#[123, 91, 45, 48, 49, 50, 51, 52, 53, 54, 55, 56, 57, 116, 102, 110]⟩ c = true := (inB_vs c).2 h
theorem inB_no {c : Int} (h : ¬ vstart c) : inB ⟨#[123, 91, 45, 48, 49, 50, 51, 52, 53, 54, 55, 56, 57, 116, 102, 110]⟩ c = false := by
  rw [← Bool.not_eq_true]; exact fun e => h ((inB_vs c).1 e)
theorem conv_one (W : World) (n : Nat) (c : Int) : (convert 23 9 (.slice (some ⟨W.heap.size, 0, none⟩) 1 1)).run Try.prog ((W.drewN n).alloc (.cells #[.int .u8 c] 5)) = .ok (.string ⟨#[UInt8.ofNat c.toNat]⟩) ((W.drewN n).alloc (.cells #[.int .u8 c] 5)) :=
  run_convert_bytes_arg (P := Try.prog) ((W.drewN n).alloc (.cells #[.int .u8 c] 5)) 23 5 Try.underlying23 Try.underlying5 W.heap.size 0 1 1 [c] rfl (fun i hi => by
    obtain rfl : i = 0 := by omega
    exact World.cell?_alloc_at (w := W.drewN n) _ _ _ _ rfl) 9 Try.underlying9
theorem past_cell {w : World} {g : Nat} {cur : Array Value} {e : TypeId} (h : w.heap[g]? = some (.cells cur e (0, 0))) (n : Nat) (o : Obj) (j : Nat) : ((w.drewN n).alloc o).cell? ⟨g, j, none⟩ = cur[j]? := by
  have h2 : ((w.drewN n).alloc o).heap[g]? = some (.cells cur e (0, 0)) := (Below.heap_alloc (w.drewN n) o g (blklt h)).trans h
  exact blkcell h2 j
theorem acc_nil {w w1 : World} {a1 : Option Addr} {base len : Nat} {xs : List Int} (h : Cloned w w1 a1 base xs) (hx : xs.length = len) (e : a1 = none) : len = 0 ∧ len = 0 := by
  have h2 := h.owns
  rw [e, hx] at h2
  rcases h2.2 with ⟨h3, _⟩ | ⟨g, cap', cur, h3, _⟩
  · simp only [Value.slice.injEq] at h3; exact ⟨h3.2.1, h3.2.1⟩
  · simp at h3

set_option maxHeartbeats 2000000 in
set_option maxRecDepth 100000 in
theorem acc_o_one (a : Option Addr) (len cap b off : Nat) (st ok mem deep pl : Int) (xs : List Int) (w : World) (hx : xs.length = len) (hlen : len ≤ 131072) (hf : Fits 1 len)
    (hnil : a = none → len = 0 ∧ cap = 0) (hrd : Reads .u64 w a b off xs) :
    Calls Try.prog 8 #[.int .u8 st, .int .i64 1, .int .u64 ok, .slice a len cap, .int .i64 mem, .int .i64 deep, .int .i64 pl, .int .u8 123] w fun e w' => e = .returned (.bool true) ∧ Below w.heap.size w w' := by
  have HX : Hid (xs.length = len) := hx
  have HNIL : Hid (a = none → len = 0 ∧ cap = 0) := hnil
  have HRD : Hid (Reads .u64 w a b off xs) := hrd
  have HF : Hid (Fits 1 len) := hf
  have hin : inB ⟨#[123, 91, 45, 48, 49, 50, 51, 52, 53, 54, 55, 56, 57, 116, 102, 110]⟩ 123 = true := inB_yes (by unfold vstart; omega)
  clear hf hx hnil hrd
  have hb9 : (wrap64 (mem + 1) != wrap64 (mem + 1)) = false := by simp
  have hb10 : (pl != pl) = false := by simp
  go_enter Try.func8, Try.ntmps8
  go_wp2_with (go_at_call 26; go_in)
  refine (cloneWords_gen a len cap b off w.heap.size xs _ HX.out (by omega) HNIL.out HRD.out (Nat.le_refl _)).mono ?_
  rintro e w1 ⟨a1, rfl, hc1⟩
  have hz1 := hc1.below.size
  have HC1 : Hid (Cloned w w1 a1 w.heap.size xs) := hc1
  clear hc1 HRD HNIL
  go_wp2_with fail
  refine (cloneWords_gen a1 len len w.heap.size 0 w.heap.size xs _ HX.out (by omega) (acc_nil HC1.out HX.out) HC1.out.reads hz1).mono ?_
  rintro e w2 ⟨a2, rfl, hc2⟩
  have HC2 : Hid (Cloned w1 w2 a2 w.heap.size xs) := hc2
  clear hc2
  go_wp2_with fail
  have hcall := laid_open w w1 w2 a1 a2 xs HC1.out HC2.out (zacc st 1 ok a2 len mem deep pl) rfl HX.out.symm HX.out.symm 1 true 123 rfl (by rw [HX.out]; exact HF.out) (by rw [HX.out]; omega) rfl
  refine hcall.mono ?_
  clear hcall HC2 HC1
  rintro e w4 ⟨rfl, ka, kc, hz4, _, _, hbel⟩
  have c1 : w4.cell? ⟨w2.heap.size, 1, none⟩ = some (.int .i64 (2)) := blkcell hz4 1
  have c4 : w4.cell? ⟨w2.heap.size, 4, none⟩ = some (.int .i64 (wrap64 (mem + 1))) := by
    have h : w4.cell? ⟨w2.heap.size, 4, none⟩ = some (.int .i64 (pre1 (zacc st 1 ok a2 len mem deep pl)).mem) := blkcell hz4 4
    rw [h, pre1_one rfl]; rfl
  have c8 : w4.cell? ⟨w2.heap.size, 8, none⟩ = some (.int .i64 (pl)) := by
    have h : w4.cell? ⟨w2.heap.size, 8, none⟩ = some (.int .i64 (pre1 (zacc st 1 ok a2 len mem deep pl)).ms) := blkcell hz4 8
    rw [h, pre1_one rfl]; rfl
  clear hz4 hz1
  go_wp2_with (go_at_call 29; refine (inSet_any _ _ _ (by decide)).mono ?_; rintro e w' ⟨rfl, rfl⟩)
  go_ret
  exact ⟨rfl, hbel⟩

set_option maxHeartbeats 2000000 in
set_option maxRecDepth 100000 in
theorem acc_a_one (a : Option Addr) (len cap b off : Nat) (st ok mem deep pl : Int) (xs : List Int) (w : World) (hx : xs.length = len) (hlen : len ≤ 131072) (hf : Fits 1 len)
    (hnil : a = none → len = 0 ∧ cap = 0) (hrd : Reads .u64 w a b off xs) :
    Calls Try.prog 8 #[.int .u8 st, .int .i64 1, .int .u64 ok, .slice a len cap, .int .i64 mem, .int .i64 deep, .int .i64 pl, .int .u8 91] w fun e w' => e = .returned (.bool true) ∧ Below w.heap.size w w' := by
  have HX : Hid (xs.length = len) := hx
  have HNIL : Hid (a = none → len = 0 ∧ cap = 0) := hnil
  have HRD : Hid (Reads .u64 w a b off xs) := hrd
  have HF : Hid (Fits 1 len) := hf
  have hin : inB ⟨#[123, 91, 45, 48, 49, 50, 51, 52, 53, 54, 55, 56, 57, 116, 102, 110]⟩ 91 = true := inB_yes (by unfold vstart; omega)
  clear hf hx hnil hrd
  have hb9 : (wrap64 (mem + 1) != wrap64 (mem + 1)) = false := by simp
  have hb10 : (pl != pl) = false := by simp
  go_enter Try.func8, Try.ntmps8
  go_wp2_with (go_at_call 26; go_in)
  refine (cloneWords_gen a len cap b off w.heap.size xs _ HX.out (by omega) HNIL.out HRD.out (Nat.le_refl _)).mono ?_
  rintro e w1 ⟨a1, rfl, hc1⟩
  have hz1 := hc1.below.size
  have HC1 : Hid (Cloned w w1 a1 w.heap.size xs) := hc1
  clear hc1 HRD HNIL
  go_wp2_with fail
  refine (cloneWords_gen a1 len len w.heap.size 0 w.heap.size xs _ HX.out (by omega) (acc_nil HC1.out HX.out) HC1.out.reads hz1).mono ?_
  rintro e w2 ⟨a2, rfl, hc2⟩
  have HC2 : Hid (Cloned w1 w2 a2 w.heap.size xs) := hc2
  clear hc2
  go_wp2_with fail
  have hcall := laid_open w w1 w2 a1 a2 xs HC1.out HC2.out (zacc st 1 ok a2 len mem deep pl) rfl HX.out.symm HX.out.symm 1 false 91 rfl (by rw [HX.out]; exact HF.out) (by rw [HX.out]; omega) rfl
  refine hcall.mono ?_
  clear hcall HC2 HC1
  rintro e w4 ⟨rfl, ka, kc, hz4, _, _, hbel⟩
  have c1 : w4.cell? ⟨w2.heap.size, 1, none⟩ = some (.int .i64 (2)) := blkcell hz4 1
  have c4 : w4.cell? ⟨w2.heap.size, 4, none⟩ = some (.int .i64 (wrap64 (mem + 1))) := by
    have h : w4.cell? ⟨w2.heap.size, 4, none⟩ = some (.int .i64 (pre1 (zacc st 1 ok a2 len mem deep pl)).mem) := blkcell hz4 4
    rw [h, pre1_one rfl]; rfl
  have c8 : w4.cell? ⟨w2.heap.size, 8, none⟩ = some (.int .i64 (pl)) := by
    have h : w4.cell? ⟨w2.heap.size, 8, none⟩ = some (.int .i64 (pre1 (zacc st 1 ok a2 len mem deep pl)).ms) := blkcell hz4 8
    rw [h, pre1_one rfl]; rfl
  clear hz4 hz1
  go_wp2_with (go_at_call 29; refine (inSet_any _ _ _ (by decide)).mono ?_; rintro e w' ⟨rfl, rfl⟩)
  go_ret
  exact ⟨rfl, hbel⟩

set_option maxHeartbeats 2000000 in
set_option maxRecDepth 100000 in
theorem acc_o_not (a : Option Addr) (len cap b off : Nat) (d : Nat) (st ok mem deep pl : Int) (xs : List Int) (w : World) (hx : xs.length = len) (hlen : len ≤ 131072) (hf : Fits d len) (hd2 : d ≤ 100000000) (hd1 : ¬ d = 1)
    (hnil : a = none → len = 0 ∧ cap = 0) (hrd : Reads .u64 w a b off xs) :
    Calls Try.prog 8 #[.int .u8 st, .int .i64 d, .int .u64 ok, .slice a len cap, .int .i64 mem, .int .i64 deep, .int .i64 pl, .int .u8 123] w fun e w' => e = .returned (.bool true) ∧ Below w.heap.size w w' := by
  have HX : Hid (xs.length = len) := hx
  have HNIL : Hid (a = none → len = 0 ∧ cap = 0) := hnil
  have HRD : Hid (Reads .u64 w a b off xs) := hrd
  have HF : Hid (Fits d len) := hf
  have hin : inB ⟨#[123, 91, 45, 48, 49, 50, 51, 52, 53, 54, 55, 56, 57, 116, 102, 110]⟩ 123 = true := inB_yes (by unfold vstart; omega)
  have hdb : ((d : Int) == 1) = false := by simp; omega
  have hfar : d < 64 ∨ (64 ≤ d ∧ d / 64 - 1 ≤ len) := by unfold Fits at hf; omega
  have HD1 : Hid (¬ d = 1) := hd1
  clear hd1
  have hb3 : ((d : Int) + 1 == (d : Int) + 1) = true := by simp
  clear hf hx hnil hrd
  have hb9 : (mem != mem) = false := by simp
  have hb10 : (bits .xor .i64 (-1) pl != bits .xor .i64 (-1) pl) = false := by simp
  rcases hfar with hfar | ⟨hfar, hfar2⟩
  · go_enter Try.func8, Try.ntmps8
    go_wp2_with (go_at_call 26; go_in)
    refine (cloneWords_gen a len cap b off w.heap.size xs _ HX.out (by omega) HNIL.out HRD.out (Nat.le_refl _)).mono ?_
    rintro e w1 ⟨a1, rfl, hc1⟩
    have hz1 := hc1.below.size
    have HC1 : Hid (Cloned w w1 a1 w.heap.size xs) := hc1
    clear hc1 HRD HNIL
    go_wp2_with fail
    refine (cloneWords_gen a1 len len w.heap.size 0 w.heap.size xs _ HX.out (by omega) (acc_nil HC1.out HX.out) HC1.out.reads hz1).mono ?_
    rintro e w2 ⟨a2, rfl, hc2⟩
    have HC2 : Hid (Cloned w1 w2 a2 w.heap.size xs) := hc2
    clear hc2
    go_wp2_with fail
    have hcall := laid_open w w1 w2 a1 a2 xs HC1.out HC2.out (zacc st d ok a2 len mem deep pl) rfl HX.out.symm HX.out.symm d true 123 rfl (by rw [HX.out]; exact HF.out) (by rw [HX.out]; omega) rfl
    refine hcall.mono ?_
    clear hcall HC2 HC1
    rintro e w4 ⟨rfl, ka, kc, hz4, _, _, hbel⟩
    have c1 : w4.cell? ⟨w2.heap.size, 1, none⟩ = some (.int .i64 ((d : Int) + 1)) := blkcell hz4 1
    have c4 : w4.cell? ⟨w2.heap.size, 4, none⟩ = some (.int .i64 (mem)) := by
      have h : w4.cell? ⟨w2.heap.size, 4, none⟩ = some (.int .i64 (pre1 (zacc st d ok a2 len mem deep pl)).mem) := blkcell hz4 4
      rw [h, pre1_not (show ¬ ((d : Int) = 1) by have := HD1.out; omega)]; rfl
    have c8 : w4.cell? ⟨w2.heap.size, 8, none⟩ = some (.int .i64 (bits .xor .i64 (-1) pl)) := by
      have h : w4.cell? ⟨w2.heap.size, 8, none⟩ = some (.int .i64 (pre1 (zacc st d ok a2 len mem deep pl)).ms) := blkcell hz4 8
      rw [h, pre1_not (show ¬ ((d : Int) = 1) by have := HD1.out; omega)]; rfl
    clear hz4 hz1
    go_wp2_with (go_at_call 29; refine (inSet_any _ _ _ (by decide)).mono ?_; rintro e w' ⟨rfl, rfl⟩)
    go_ret
    exact ⟨rfl, hbel⟩
  · go_enter Try.func8, Try.ntmps8
    go_wp2_with (go_at_call 26; go_in)
    refine (cloneWords_gen a len cap b off w.heap.size xs _ HX.out (by omega) HNIL.out HRD.out (Nat.le_refl _)).mono ?_
    rintro e w1 ⟨a1, rfl, hc1⟩
    have hz1 := hc1.below.size
    have HC1 : Hid (Cloned w w1 a1 w.heap.size xs) := hc1
    clear hc1 HRD HNIL
    go_wp2_with fail
    refine (cloneWords_gen a1 len len w.heap.size 0 w.heap.size xs _ HX.out (by omega) (acc_nil HC1.out HX.out) HC1.out.reads hz1).mono ?_
    rintro e w2 ⟨a2, rfl, hc2⟩
    have HC2 : Hid (Cloned w1 w2 a2 w.heap.size xs) := hc2
    clear hc2
    go_wp2_with fail
    have hcall := laid_open w w1 w2 a1 a2 xs HC1.out HC2.out (zacc st d ok a2 len mem deep pl) rfl HX.out.symm HX.out.symm d true 123 rfl (by rw [HX.out]; exact HF.out) (by rw [HX.out]; omega) rfl
    refine hcall.mono ?_
    clear hcall HC2 HC1
    rintro e w4 ⟨rfl, ka, kc, hz4, _, _, hbel⟩
    have c1 : w4.cell? ⟨w2.heap.size, 1, none⟩ = some (.int .i64 ((d : Int) + 1)) := blkcell hz4 1
    have c4 : w4.cell? ⟨w2.heap.size, 4, none⟩ = some (.int .i64 (mem)) := by
      have h : w4.cell? ⟨w2.heap.size, 4, none⟩ = some (.int .i64 (pre1 (zacc st d ok a2 len mem deep pl)).mem) := blkcell hz4 4
      rw [h, pre1_not (show ¬ ((d : Int) = 1) by have := HD1.out; omega)]; rfl
    have c8 : w4.cell? ⟨w2.heap.size, 8, none⟩ = some (.int .i64 (bits .xor .i64 (-1) pl)) := by
      have h : w4.cell? ⟨w2.heap.size, 8, none⟩ = some (.int .i64 (pre1 (zacc st d ok a2 len mem deep pl)).ms) := blkcell hz4 8
      rw [h, pre1_not (show ¬ ((d : Int) = 1) by have := HD1.out; omega)]; rfl
    clear hz4 hz1
    go_wp2_with (go_at_call 29; refine (inSet_any _ _ _ (by decide)).mono ?_; rintro e w' ⟨rfl, rfl⟩)
    go_ret
    exact ⟨rfl, hbel⟩

set_option maxHeartbeats 2000000 in
set_option maxRecDepth 100000 in
theorem acc_a_not (a : Option Addr) (len cap b off : Nat) (d : Nat) (st ok mem deep pl : Int) (xs : List Int) (w : World) (hx : xs.length = len) (hlen : len ≤ 131072) (hf : Fits d len) (hd2 : d ≤ 100000000) (hd1 : ¬ d = 1)
    (hnil : a = none → len = 0 ∧ cap = 0) (hrd : Reads .u64 w a b off xs) :
    Calls Try.prog 8 #[.int .u8 st, .int .i64 d, .int .u64 ok, .slice a len cap, .int .i64 mem, .int .i64 deep, .int .i64 pl, .int .u8 91] w fun e w' => e = .returned (.bool true) ∧ Below w.heap.size w w' := by
  have HX : Hid (xs.length = len) := hx
  have HNIL : Hid (a = none → len = 0 ∧ cap = 0) := hnil
  have HRD : Hid (Reads .u64 w a b off xs) := hrd
  have HF : Hid (Fits d len) := hf
  have hin : inB ⟨#[123, 91, 45, 48, 49, 50, 51, 52, 53, 54, 55, 56, 57, 116, 102, 110]⟩ 91 = true := inB_yes (by unfold vstart; omega)
  have hdb : ((d : Int) == 1) = false := by simp; omega
  have hfar : d < 64 ∨ (64 ≤ d ∧ d / 64 - 1 ≤ len) := by unfold Fits at hf; omega
  have HD1 : Hid (¬ d = 1) := hd1
  clear hd1
  have hb3 : ((d : Int) + 1 == (d : Int) + 1) = true := by simp
  clear hf hx hnil hrd
  have hb9 : (mem != mem) = false := by simp
  have hb10 : (bits .xor .i64 (-1) pl != bits .xor .i64 (-1) pl) = false := by simp
  rcases hfar with hfar | ⟨hfar, hfar2⟩
  · go_enter Try.func8, Try.ntmps8
    go_wp2_with (go_at_call 26; go_in)
    refine (cloneWords_gen a len cap b off w.heap.size xs _ HX.out (by omega) HNIL.out HRD.out (Nat.le_refl _)).mono ?_
    rintro e w1 ⟨a1, rfl, hc1⟩
    have hz1 := hc1.below.size
    have HC1 : Hid (Cloned w w1 a1 w.heap.size xs) := hc1
    clear hc1 HRD HNIL
    go_wp2_with fail
    refine (cloneWords_gen a1 len len w.heap.size 0 w.heap.size xs _ HX.out (by omega) (acc_nil HC1.out HX.out) HC1.out.reads hz1).mono ?_
    rintro e w2 ⟨a2, rfl, hc2⟩
    have HC2 : Hid (Cloned w1 w2 a2 w.heap.size xs) := hc2
    clear hc2
    go_wp2_with fail
    have hcall := laid_open w w1 w2 a1 a2 xs HC1.out HC2.out (zacc st d ok a2 len mem deep pl) rfl HX.out.symm HX.out.symm d false 91 rfl (by rw [HX.out]; exact HF.out) (by rw [HX.out]; omega) rfl
    refine hcall.mono ?_
    clear hcall HC2 HC1
    rintro e w4 ⟨rfl, ka, kc, hz4, _, _, hbel⟩
    have c1 : w4.cell? ⟨w2.heap.size, 1, none⟩ = some (.int .i64 ((d : Int) + 1)) := blkcell hz4 1
    have c4 : w4.cell? ⟨w2.heap.size, 4, none⟩ = some (.int .i64 (mem)) := by
      have h : w4.cell? ⟨w2.heap.size, 4, none⟩ = some (.int .i64 (pre1 (zacc st d ok a2 len mem deep pl)).mem) := blkcell hz4 4
      rw [h, pre1_not (show ¬ ((d : Int) = 1) by have := HD1.out; omega)]; rfl
    have c8 : w4.cell? ⟨w2.heap.size, 8, none⟩ = some (.int .i64 (bits .xor .i64 (-1) pl)) := by
      have h : w4.cell? ⟨w2.heap.size, 8, none⟩ = some (.int .i64 (pre1 (zacc st d ok a2 len mem deep pl)).ms) := blkcell hz4 8
      rw [h, pre1_not (show ¬ ((d : Int) = 1) by have := HD1.out; omega)]; rfl
    clear hz4 hz1
    go_wp2_with (go_at_call 29; refine (inSet_any _ _ _ (by decide)).mono ?_; rintro e w' ⟨rfl, rfl⟩)
    go_ret
    exact ⟨rfl, hbel⟩
  · go_enter Try.func8, Try.ntmps8
    go_wp2_with (go_at_call 26; go_in)
    refine (cloneWords_gen a len cap b off w.heap.size xs _ HX.out (by omega) HNIL.out HRD.out (Nat.le_refl _)).mono ?_
    rintro e w1 ⟨a1, rfl, hc1⟩
    have hz1 := hc1.below.size
    have HC1 : Hid (Cloned w w1 a1 w.heap.size xs) := hc1
    clear hc1 HRD HNIL
    go_wp2_with fail
    refine (cloneWords_gen a1 len len w.heap.size 0 w.heap.size xs _ HX.out (by omega) (acc_nil HC1.out HX.out) HC1.out.reads hz1).mono ?_
    rintro e w2 ⟨a2, rfl, hc2⟩
    have HC2 : Hid (Cloned w1 w2 a2 w.heap.size xs) := hc2
    clear hc2
    go_wp2_with fail
    have hcall := laid_open w w1 w2 a1 a2 xs HC1.out HC2.out (zacc st d ok a2 len mem deep pl) rfl HX.out.symm HX.out.symm d false 91 rfl (by rw [HX.out]; exact HF.out) (by rw [HX.out]; omega) rfl
    refine hcall.mono ?_
    clear hcall HC2 HC1
    rintro e w4 ⟨rfl, ka, kc, hz4, _, _, hbel⟩
    have c1 : w4.cell? ⟨w2.heap.size, 1, none⟩ = some (.int .i64 ((d : Int) + 1)) := blkcell hz4 1
    have c4 : w4.cell? ⟨w2.heap.size, 4, none⟩ = some (.int .i64 (mem)) := by
      have h : w4.cell? ⟨w2.heap.size, 4, none⟩ = some (.int .i64 (pre1 (zacc st d ok a2 len mem deep pl)).mem) := blkcell hz4 4
      rw [h, pre1_not (show ¬ ((d : Int) = 1) by have := HD1.out; omega)]; rfl
    have c8 : w4.cell? ⟨w2.heap.size, 8, none⟩ = some (.int .i64 (bits .xor .i64 (-1) pl)) := by
      have h : w4.cell? ⟨w2.heap.size, 8, none⟩ = some (.int .i64 (pre1 (zacc st d ok a2 len mem deep pl)).ms) := blkcell hz4 8
      rw [h, pre1_not (show ¬ ((d : Int) = 1) by have := HD1.out; omega)]; rfl
    clear hz4 hz1
    go_wp2_with (go_at_call 29; refine (inSet_any _ _ _ (by decide)).mono ?_; rintro e w' ⟨rfl, rfl⟩)
    go_ret
    exact ⟨rfl, hbel⟩

set_option maxHeartbeats 2000000 in
set_option maxRecDepth 100000 in
theorem acc_x_one (a : Option Addr) (len cap b off : Nat) (st ok mem deep pl : Int) (c : Int) (xs : List Int) (w : World) (hx : xs.length = len) (hlen : len ≤ 131072)  (hc0 : 0 ≤ c) (hc1 : c ≤ 255) (hv : ¬ vstart c) (h34 : c ≠ 34)
    (hnil : a = none → len = 0 ∧ cap = 0) (hrd : Reads .u64 w a b off xs) :
    Calls Try.prog 8 #[.int .u8 st, .int .i64 1, .int .u64 ok, .slice a len cap, .int .i64 mem, .int .i64 deep, .int .i64 pl, .int .u8 c] w fun e w' => e = .returned (.bool true) ∧ Below w.heap.size w w' := by
  have HX : Hid (xs.length = len) := hx
  have HNIL : Hid (a = none → len = 0 ∧ cap = 0) := hnil
  have HRD : Hid (Reads .u64 w a b off xs) := hrd
  have HBV : Hid (∀ a2, bv c (pre1 (zacc st 1 ok a2 len mem deep pl)) = (3, { (zacc st 1 ok a2 len mem deep pl) with st := st, mem := wrap64 (mem + 1), ms := pl, name := true, lit := ⟨#[]⟩ })) := by
    intro a2
    rw [pre1_one rfl, bv_none (by omega) (by unfold vstart at hv; omega) (by unfold vstart at hv; omega) (by unfold vstart at hv; omega) (by unfold vstart at hv; omega) (by unfold vstart at hv; omega) _]
    rfl
  have hin : inB ⟨#[123, 91, 45, 48, 49, 50, 51, 52, 53, 54, 55, 56, 57, 116, 102, 110]⟩ c = false := inB_no hv
  have HC0 : Hid (0 ≤ c ∧ c ≤ 255 ∧ c ≠ 123 ∧ c ≠ 91) := by unfold vstart at hv; exact ⟨hc0, hc1, by omega, by omega⟩
  have hq : (c != 34) = true := by simpa using h34
  clear hv h34 hc0 hc1
  have hb5 : (ok == ok) = true := by simp
  have hb6 : (ok != ok) = false := by simp
  have hb7 : (deep == deep) = true := by simp
  have hb8 : (deep != deep) = false := by simp
  have hb9 : (wrap64 (mem + 1) != wrap64 (mem + 1)) = false := by simp
  have hb10 : (pl != pl) = false := by simp
  have hb11 : (st == st) = true := by simp
  clear hx hnil hrd
  go_enter Try.func8, Try.ntmps8
  go_wp2_with (go_at_call 26; go_in)
  refine (cloneWords_gen a len cap b off w.heap.size xs _ HX.out (by omega) HNIL.out HRD.out (Nat.le_refl _)).mono ?_
  rintro e w1 ⟨a1, rfl, hc1⟩
  have hz1 := hc1.below.size
  have HC1 : Hid (Cloned w w1 a1 w.heap.size xs) := hc1
  clear hc1 HRD HNIL
  go_wp2_with fail
  refine (cloneWords_gen a1 len len w.heap.size 0 w.heap.size xs _ HX.out (by omega) (acc_nil HC1.out HX.out) HC1.out.reads hz1).mono ?_
  rintro e w2 ⟨a2, rfl, hc2⟩
  have hz2 := hc2.below.size
  have HC2 : Hid (Cloned w1 w2 a2 w.heap.size xs) := hc2
  clear hc2
  go_wp2_with fail
  have hcall := laid_plain w w1 w2 a1 a2 xs HC1.out HC2.out (zacc st 1 ok a2 len mem deep pl) rfl HX.out.symm c HC0.out.1 HC0.out.2.1 HC0.out.2.2.1 HC0.out.2.2.2
  rw [HBV.out a2] at hcall
  refine hcall.mono ?_
  clear hcall HC2 HC1 HBV HC0
  rintro e w4 ⟨rfl, hz4, hr2, hr1, hbel⟩
  have c0 : w4.cell? ⟨w2.heap.size, 0, none⟩ = some (.int .u8 st) := blkcell hz4 0
  have c1 : w4.cell? ⟨w2.heap.size, 1, none⟩ = some (.int .i64 1) := blkcell hz4 1
  have c2 : w4.cell? ⟨w2.heap.size, 2, none⟩ = some (.int .u64 ok) := blkcell hz4 2
  have c3 : w4.cell? ⟨w2.heap.size, 3, none⟩ = some (.slice a2 len len) := blkcell hz4 3
  have c4 : w4.cell? ⟨w2.heap.size, 4, none⟩ = some (.int .i64 (wrap64 (mem + 1))) := blkcell hz4 4
  have c5 : w4.cell? ⟨w2.heap.size, 5, none⟩ = some (.int .i64 deep) := blkcell hz4 5
  have c6 : w4.cell? ⟨w2.heap.size, 6, none⟩ = some (.bool true) := blkcell hz4 6
  have c7 : w4.cell? ⟨w2.heap.size, 7, none⟩ = some (.string ⟨#[]⟩) := blkcell hz4 7
  have c8 : w4.cell? ⟨w2.heap.size, 8, none⟩ = some (.int .i64 (pl)) := blkcell hz4 8
  have HR1 : Hid (Reads .u64 w4 a1 w.heap.size 0 xs) := hr1
  have HR2 : Hid (Reads .u64 w4 a2 w1.heap.size 0 xs) := hr2
  clear hz4 hr1 hr2 hz1 hz2
  go_wp2_with (first | (go_at_call 29; refine (inSet_any _ _ _ (by decide)).mono ?_; rintro e w' ⟨rfl, rfl⟩) | (go_at_call 30; refine (wordsEqual_any a2 a1 len len len len w1.heap.size 0 w.heap.size 0 xs xs _ HX.out HX.out (by omega) HR2.out HR1.out).mono ?_; rintro e w5 ⟨rfl, nd, rfl⟩))
  go_ret
  exact ⟨rfl, hbel.trans (below_drewN _ _ _)⟩

set_option maxHeartbeats 2000000 in
set_option maxRecDepth 100000 in
theorem acc_x_not (a : Option Addr) (len cap b off : Nat) (d : Nat) (st ok mem deep pl : Int) (c : Int) (xs : List Int) (w : World) (hx : xs.length = len) (hlen : len ≤ 131072) (hf : Fits d len) (hd2 : d ≤ 100000000) (hd1 : ¬ d = 1) (hc0 : 0 ≤ c) (hc1 : c ≤ 255) (hv : ¬ vstart c) (h34 : c ≠ 34)
    (hnil : a = none → len = 0 ∧ cap = 0) (hrd : Reads .u64 w a b off xs) :
    Calls Try.prog 8 #[.int .u8 st, .int .i64 d, .int .u64 ok, .slice a len cap, .int .i64 mem, .int .i64 deep, .int .i64 pl, .int .u8 c] w fun e w' => e = .returned (.bool true) ∧ Below w.heap.size w w' := by
  have HX : Hid (xs.length = len) := hx
  have HNIL : Hid (a = none → len = 0 ∧ cap = 0) := hnil
  have HRD : Hid (Reads .u64 w a b off xs) := hrd
  have HBV : Hid (∀ a2, bv c (pre1 (zacc st d ok a2 len mem deep pl)) = (3, { (zacc st d ok a2 len mem deep pl) with st := st, mem := mem, ms := bits .xor .i64 (-1) pl, name := true, lit := ⟨#[]⟩ })) := by
    intro a2
    rw [pre1_not (show ¬ ((d : Int) = 1) by omega), bv_none (by omega) (by unfold vstart at hv; omega) (by unfold vstart at hv; omega) (by unfold vstart at hv; omega) (by unfold vstart at hv; omega) (by unfold vstart at hv; omega) _]
    rfl
  have hin : inB ⟨#[123, 91, 45, 48, 49, 50, 51, 52, 53, 54, 55, 56, 57, 116, 102, 110]⟩ c = false := inB_no hv
  have HC0 : Hid (0 ≤ c ∧ c ≤ 255 ∧ c ≠ 123 ∧ c ≠ 91) := by unfold vstart at hv; exact ⟨hc0, hc1, by omega, by omega⟩
  have hq : (c != 34) = true := by simpa using h34
  clear hv h34 hc0 hc1
  have hdb : ((d : Int) == 1) = false := by simp; omega
  have hfar : d < 64 ∨ (64 ≤ d ∧ d / 64 - 1 ≤ len) := by unfold Fits at hf; omega
  clear hf hd1
  have hb3 : ((d : Int) == (d : Int)) = true := by simp
  have hb4 : ((d : Int) != (d : Int)) = false := by simp
  have hb5 : (ok == ok) = true := by simp
  have hb6 : (ok != ok) = false := by simp
  have hb7 : (deep == deep) = true := by simp
  have hb8 : (deep != deep) = false := by simp
  have hb9 : (mem != mem) = false := by simp
  have hb10 : (bits .xor .i64 (-1) pl != bits .xor .i64 (-1) pl) = false := by simp
  have hb11 : (st == st) = true := by simp
  clear hx hnil hrd
  rcases hfar with hfar | ⟨hfar, hfar2⟩
  · go_enter Try.func8, Try.ntmps8
    go_wp2_with (go_at_call 26; go_in)
    refine (cloneWords_gen a len cap b off w.heap.size xs _ HX.out (by omega) HNIL.out HRD.out (Nat.le_refl _)).mono ?_
    rintro e w1 ⟨a1, rfl, hc1⟩
    have hz1 := hc1.below.size
    have HC1 : Hid (Cloned w w1 a1 w.heap.size xs) := hc1
    clear hc1 HRD HNIL
    go_wp2_with fail
    refine (cloneWords_gen a1 len len w.heap.size 0 w.heap.size xs _ HX.out (by omega) (acc_nil HC1.out HX.out) HC1.out.reads hz1).mono ?_
    rintro e w2 ⟨a2, rfl, hc2⟩
    have hz2 := hc2.below.size
    have HC2 : Hid (Cloned w1 w2 a2 w.heap.size xs) := hc2
    clear hc2
    go_wp2_with fail
    have hcall := laid_plain w w1 w2 a1 a2 xs HC1.out HC2.out (zacc st d ok a2 len mem deep pl) rfl HX.out.symm c HC0.out.1 HC0.out.2.1 HC0.out.2.2.1 HC0.out.2.2.2
    rw [HBV.out a2] at hcall
    refine hcall.mono ?_
    clear hcall HC2 HC1 HBV HC0
    rintro e w4 ⟨rfl, hz4, hr2, hr1, hbel⟩
    have c0 : w4.cell? ⟨w2.heap.size, 0, none⟩ = some (.int .u8 st) := blkcell hz4 0
    have c1 : w4.cell? ⟨w2.heap.size, 1, none⟩ = some (.int .i64 d) := blkcell hz4 1
    have c2 : w4.cell? ⟨w2.heap.size, 2, none⟩ = some (.int .u64 ok) := blkcell hz4 2
    have c3 : w4.cell? ⟨w2.heap.size, 3, none⟩ = some (.slice a2 len len) := blkcell hz4 3
    have c4 : w4.cell? ⟨w2.heap.size, 4, none⟩ = some (.int .i64 (mem)) := blkcell hz4 4
    have c5 : w4.cell? ⟨w2.heap.size, 5, none⟩ = some (.int .i64 deep) := blkcell hz4 5
    have c6 : w4.cell? ⟨w2.heap.size, 6, none⟩ = some (.bool true) := blkcell hz4 6
    have c7 : w4.cell? ⟨w2.heap.size, 7, none⟩ = some (.string ⟨#[]⟩) := blkcell hz4 7
    have c8 : w4.cell? ⟨w2.heap.size, 8, none⟩ = some (.int .i64 (bits .xor .i64 (-1) pl)) := blkcell hz4 8
    have HR1 : Hid (Reads .u64 w4 a1 w.heap.size 0 xs) := hr1
    have HR2 : Hid (Reads .u64 w4 a2 w1.heap.size 0 xs) := hr2
    clear hz4 hr1 hr2 hz1 hz2
    go_wp2_with (first | (go_at_call 29; refine (inSet_any _ _ _ (by decide)).mono ?_; rintro e w' ⟨rfl, rfl⟩) | (go_at_call 30; refine (wordsEqual_any a2 a1 len len len len w1.heap.size 0 w.heap.size 0 xs xs _ HX.out HX.out (by omega) HR2.out HR1.out).mono ?_; rintro e w5 ⟨rfl, nd, rfl⟩))
    go_ret
    exact ⟨rfl, hbel.trans (below_drewN _ _ _)⟩
  · go_enter Try.func8, Try.ntmps8
    go_wp2_with (go_at_call 26; go_in)
    refine (cloneWords_gen a len cap b off w.heap.size xs _ HX.out (by omega) HNIL.out HRD.out (Nat.le_refl _)).mono ?_
    rintro e w1 ⟨a1, rfl, hc1⟩
    have hz1 := hc1.below.size
    have HC1 : Hid (Cloned w w1 a1 w.heap.size xs) := hc1
    clear hc1 HRD HNIL
    go_wp2_with fail
    refine (cloneWords_gen a1 len len w.heap.size 0 w.heap.size xs _ HX.out (by omega) (acc_nil HC1.out HX.out) HC1.out.reads hz1).mono ?_
    rintro e w2 ⟨a2, rfl, hc2⟩
    have hz2 := hc2.below.size
    have HC2 : Hid (Cloned w1 w2 a2 w.heap.size xs) := hc2
    clear hc2
    go_wp2_with fail
    have hcall := laid_plain w w1 w2 a1 a2 xs HC1.out HC2.out (zacc st d ok a2 len mem deep pl) rfl HX.out.symm c HC0.out.1 HC0.out.2.1 HC0.out.2.2.1 HC0.out.2.2.2
    rw [HBV.out a2] at hcall
    refine hcall.mono ?_
    clear hcall HC2 HC1 HBV HC0
    rintro e w4 ⟨rfl, hz4, hr2, hr1, hbel⟩
    have c0 : w4.cell? ⟨w2.heap.size, 0, none⟩ = some (.int .u8 st) := blkcell hz4 0
    have c1 : w4.cell? ⟨w2.heap.size, 1, none⟩ = some (.int .i64 d) := blkcell hz4 1
    have c2 : w4.cell? ⟨w2.heap.size, 2, none⟩ = some (.int .u64 ok) := blkcell hz4 2
    have c3 : w4.cell? ⟨w2.heap.size, 3, none⟩ = some (.slice a2 len len) := blkcell hz4 3
    have c4 : w4.cell? ⟨w2.heap.size, 4, none⟩ = some (.int .i64 (mem)) := blkcell hz4 4
    have c5 : w4.cell? ⟨w2.heap.size, 5, none⟩ = some (.int .i64 deep) := blkcell hz4 5
    have c6 : w4.cell? ⟨w2.heap.size, 6, none⟩ = some (.bool true) := blkcell hz4 6
    have c7 : w4.cell? ⟨w2.heap.size, 7, none⟩ = some (.string ⟨#[]⟩) := blkcell hz4 7
    have c8 : w4.cell? ⟨w2.heap.size, 8, none⟩ = some (.int .i64 (bits .xor .i64 (-1) pl)) := blkcell hz4 8
    have HR1 : Hid (Reads .u64 w4 a1 w.heap.size 0 xs) := hr1
    have HR2 : Hid (Reads .u64 w4 a2 w1.heap.size 0 xs) := hr2
    clear hz4 hr1 hr2 hz1 hz2
    go_wp2_with (first | (go_at_call 29; refine (inSet_any _ _ _ (by decide)).mono ?_; rintro e w' ⟨rfl, rfl⟩) | (go_at_call 30; refine (wordsEqual_any a2 a1 len len len len w1.heap.size 0 w.heap.size 0 xs xs _ HX.out HX.out (by omega) HR2.out HR1.out).mono ?_; rintro e w5 ⟨rfl, nd, rfl⟩))
    go_ret
    exact ⟨rfl, hbel.trans (below_drewN _ _ _)⟩

end Go.Proofs.Qxb6000752a
