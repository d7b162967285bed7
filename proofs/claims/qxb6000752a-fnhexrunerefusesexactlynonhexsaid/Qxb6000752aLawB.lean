/-
  The walk of FnHexRuneRefusesExactlyNonHex (4).
-/
import Derived.Test.Qxb6000752aHexSet
import Derived.Test.Qxb6000752aMem
namespace Go.Proofs.Qxb6000752a
open Go.RowKit

theorem i32_and15 (x : Int) (h0 : 0 ≤ x) (h1 : x < 65536) : bits .and .i32 x 15 = x % 16 :=
  bits_mask .i32 31 (by decide) wraps_i32 4 (by decide) x h0 (by omega)
theorem i32_nib (r : Int) (k : Nat) (h0 : 0 ≤ r) (h1 : r < 65536) : bits .and .i32 (r / 2 ^ (12 - 4 * k)) 15 = nib r k := by
  have hp : (0 : Int) < 2 ^ (12 - 4 * k) := Int.pow_pos (by decide)
  have a : 0 ≤ r / 2 ^ (12 - 4 * k) := Int.ediv_nonneg h0 (Int.le_of_lt hp)
  have b : r / 2 ^ (12 - 4 * k) ≤ r := Int.ediv_le_self _ h0
  exact i32_and15 _ a (by omega)
theorem nib_acc {f : Nat → Int} (h : ∀ j, j < 4 → 0 ≤ hexv (f j)) {k : Nat} (hk : k < 4) : nib (hexAcc f 4) k = hexv (f k) := by
  have g0 := h 0 (by omega)
  have g1 := h 1 (by omega)
  have g2 := h 2 (by omega)
  have g3 := h 3 (by omega)
  have b0 := hexv_le (f 0)
  have b1 := hexv_le (f 1)
  have b2 := hexv_le (f 2)
  have b3 := hexv_le (f 3)
  simp only [hexAcc]
  match k, hk with
  | 0, _ => simp [nib]; omega
  | 1, _ => simp [nib]; omega
  | 2, _ => simp [nib]; omega
  | 3, _ => simp [nib]; omega
theorem lowd_lowc {c : Int} {n : Nat} (h : hexv c = (n : Int)) : ((lowd n : Nat) : Int) = lowc c := by
  unfold hexv at h
  unfold lowd lowc
  split at h
  · rw [if_pos (by omega), if_neg (by omega)]; omega
  · split at h
    · rw [if_neg (by omega), if_neg (by omega)]; omega
    · split at h
      · rw [if_neg (by omega), if_pos (by omega)]; omega
      · omega

theorem refuses_big (a : Option Addr) (len cap : Nat) (w : World) (hle : 1048576 < len) :
    Calls Try.prog 4 #[.slice a len cap] w fun e w' => e = .returned (.bool true) ∧ Below w.heap.size w w' := by
  go_enter Try.func4, Try.ntmps4
  go_wp2
  go_ret
  exact ⟨rfl, Below.refl _ _⟩
theorem refuses_nil (w : World) :
    Calls Try.prog 4 #[.slice none 0 0] w fun e w' => e = .returned (.bool true) ∧ Below w.heap.size w w' := by
  go_enter Try.func4, Try.ntmps4
  go_wp2_with (first | (go_at_call 13; go_in) | (go_at_call 14; refine (cloneBytes_nil _).mono ?_; rintro e w' ⟨rfl, rfl⟩) | (go_at_call 12; refine (zzHex_short _ _ _ _ (by omega)).mono ?_; rintro e w' ⟨rfl, rfl⟩) | (go_at_call 15; refine (startsWith_short _ _ _ _ (by omega)).mono ?_; rintro e w' ⟨rfl, rfl⟩))
  go_ret
  exact ⟨rfl, Below.refl _ _⟩
theorem refuses_short (ad : Addr) (len cap b off : Nat) (xs : List Int) (w : World) (hx : xs.length = len) (hle : len < 4) (hrd : Reads .u8 w (some ad) b off xs) :
    Calls Try.prog 4 #[.slice (some ad) len cap] w fun e w' => e = .returned (.bool true) ∧ Below w.heap.size w w' := by
  have HX : Hid (xs.length = len) := hx
  have HRD : Hid (Reads .u8 w (some ad) b off xs) := hrd
  clear hx hrd
  go_enter Try.func4, Try.ntmps4
  go_wp2_with (go_at_call 13; go_in)
  refine (cloneBytes_any _ len cap b off xs _ HX.out (by omega) HRD.out).mono ?_
  rintro e w1 ⟨rfl, hb1, hbel1⟩
  go_wp2_with (first | (go_at_call 12; refine (zzHex_short _ _ _ _ (by omega)).mono ?_; rintro e w' ⟨rfl, rfl⟩) | (go_at_call 15; refine (startsWith_short _ _ _ _ (by omega)).mono ?_; rintro e w' ⟨rfl, rfl⟩))
  go_ret
  exact ⟨rfl, hbel1⟩

set_option maxHeartbeats 1600000 in
theorem refuses_any (ad : Addr) (len cap b off : Nat) (xs : List Int) (w : World) (hx : xs.length = len) (h4 : 4 ≤ len) (hle : len ≤ 1048576) (hrd : Reads .u8 w (some ad) b off xs) (hbd : ∀ j, 0 ≤ xs.getD j 0 ∧ xs.getD j 0 ≤ 255) :
    Calls Try.prog 4 #[.slice (some ad) len cap] w fun e w' => e = .returned (.bool true) ∧ Below w.heap.size w w' := by
  have HX : Hid (xs.length = len) := hx
  have HRD : Hid (Reads .u8 w (some ad) b off xs) := hrd
  obtain ⟨F, hF⟩ : ∃ F : Nat → Int, F = fun j => xs.getD j 0 := ⟨_, rfl⟩
  have hb : ∀ j, j < 4 → 0 ≤ F j ∧ F j ≤ 255 := fun j _ => by rw [hF]; exact hbd j
  have HB : Hid (∀ j, j < 4 → 0 ≤ F j ∧ F j ≤ 255) := hb
  have HF : Hid (F = fun j => xs.getD j 0) := hF
  clear hx hrd hb hbd hF
  go_enter Try.func4, Try.ntmps4
  go_wp2_with (go_at_call 13; go_in)
  refine (cloneBytes_any _ len cap b off xs _ HX.out (by omega) HRD.out).mono ?_
  rintro e w1 ⟨rfl, hb1, hbel1⟩
  have hc : ∀ j, j < 4 → w1.cell? ⟨w.heap.size, 0 + j, none⟩ = some (.int .u8 (F j)) := by
    intro j hj
    rw [Nat.zero_add, hb1.cell (by rw [HX.out]; omega), HF.out]
  have HC : Hid (∀ j, j < 4 → w1.cell? ⟨w.heap.size, 0 + j, none⟩ = some (.int .u8 (F j))) := hc
  clear hc hb1
  go_wp2_with fail
  refine (zzHex_any w.heap.size 0 len len F _ h4 (by omega) (by omega) HC.out HB.out).mono ?_
  rintro e w2 ⟨rfl, rfl⟩
  cases hf : four F
  · rw [four_hexF hf]
    have HF4 : Hid (four F = false) := hf
    clear hf
    go_wp2_with fail
    refine (startsWith_any w.heap.size 0 len len F _ h4 HC.out).mono ?_
    rw [HF4.out]
    rintro e w2 ⟨rfl, rfl⟩
    go_wp2
    go_ret
    exact ⟨rfl, hbel1⟩
  · have hall := four_all hf
    have hG := hexF_good hall
    have hbd := hexAcc_bd (Nat.le_refl 4) hall
    have hnib : ∀ k, k < 4 → ∃ n : Nat, n < 16 ∧ hexv (F k) = (n : Int) ∧ bits .and .i32 (hexAcc F 4 / 2 ^ (12 - 4 * k)) 15 = (n : Int) ∧ ((lowd n : Nat) : Int) = lowc (F k) := by
      intro k hk
      have h1 := hexv_le (F k)
      have h2 := hall k hk
      have e : hexv (F k) = ((hexv (F k)).toNat : Int) := by omega
      exact ⟨(hexv (F k)).toNat, by omega, e, by rw [i32_nib _ k hbd.1 hbd.2.2, nib_acc hall hk]; exact e, lowd_lowc e⟩
    obtain ⟨G, hGe⟩ : ∃ G, G = hexAcc F 4 := ⟨_, rfl⟩
    rw [hG]
    rw [← hGe] at hbd hnib ⊢
    obtain ⟨hG0, _, hG1⟩ := hbd
    have HNB : Hid (∀ k, k < 4 → ∃ n : Nat, n < 16 ∧ hexv (F k) = (n : Int) ∧ bits .and .i32 (G / 2 ^ (12 - 4 * k)) 15 = (n : Int) ∧ ((lowd n : Nat) : Int) = lowc (F k)) := hnib
    have HF4 : Hid (four F = true) := hf
    clear hf hall hG hnib hGe
    go_wp2_with fail
    refine (startsWith_any w.heap.size 0 len len F _ h4 HC.out).mono ?_
    rw [HF4.out]
    rintro e w3 ⟨rfl, rfl⟩
    go_wp2
    go_loopw [4] (fun i wr => ∃ (k : Nat), k ≤ 4 ∧ i = .int .i64 k ∧ Below w.heap.size w wr ∧ (∀ j, j < 4 → wr.cell? ⟨w.heap.size, 0 + j, none⟩ = some (.int .u8 (F j)))) (fun i _ => 4 - (intOf i).toNat)
    case atStart => exact ⟨0, Nat.zero_le _, rfl, hbel1, HC.out⟩
    case round =>
      obtain ⟨k, hk, rfl, hbel, hcw⟩ := hrel
      have HCW : Hid (∀ j, j < 4 → wr.cell? ⟨w.heap.size, 0 + j, none⟩ = some (.int .u8 (F j))) := hcw
      clear hcw
      by_cases hlt : k < 4
      · obtain ⟨n, hn, _, hN, hL⟩ := HNB.out k hlt
        have hcx := HCW.out k hlt
        rw [Nat.zero_add] at hcx
        obtain ⟨hc0, hc1⟩ := HB.out k hlt
        obtain ⟨c, hcc⟩ : ∃ c, c = F k := ⟨_, rfl⟩
        rw [← hcc] at hcx hc0 hc1 hL
        have hLa := lowd_at n hn
        obtain ⟨L, hLe⟩ : ∃ L, L = lowd n := ⟨_, rfl⟩
        rw [← hLe] at hLa hL
        have hk4 : (k : Int) < 4 := by omega
        have hkl : (k : Int) < (len : Int) := by omega
        have hk0 : (0 : Int) ≤ (k : Int) := by omega
        have hn16 : (n : Int) < 16 := by omega
        have hn0 : (0 : Int) ≤ (n : Int) := by omega
        have hbt : ((L : Int) != lowc c) = false := by simp [hL]
        clear hLe hcc hL
        go_wp2
        go_quiet ((go_at_call 16; exact Calls.quiet_of_same (lowerHex_any _ _ hc0 hc1)))
        go_wp2
        go_roundw
        case rel => exact ⟨k + 1, by omega, by go_num, hbel.trans (below_drewN _ _ _), HCW.out⟩
        case measure => simp [intOf]; omega
      · go_wp2
        go_ret
        exact ⟨rfl, hbel⟩

end Go.Proofs.Qxb6000752a
