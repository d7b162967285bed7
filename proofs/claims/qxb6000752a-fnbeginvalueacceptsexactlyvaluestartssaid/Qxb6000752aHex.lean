/-
  The walk of hexRune (35) and ZZHexRune (12).
-/
import Derived.Test.Qxb6000752aProg
import Derived.Test.Qxb6000752aPlain
import Derived.WalkKit
import Derived.WalkSpells
import Derived.WalkLawsBesides
namespace Go.Proofs.Qxb6000752a
open Go.RowKit

theorem ret_int {k : IntKind} {a b : Int} (h : a = b) : Ending.returned (.int k a) = .returned (.int k b) := by rw [h]
theorem ret_bool {a b : Bool} (h : a = b) : Ending.returned (.bool a) = .returned (.bool b) := by rw [h]
theorem val_int {k : IntKind} {a b : Int} (h : a = b) : Value.int k a = .int k b := by rw [h]

/-- Fewer than four bytes. -/
theorem hexRune_short (a : Option Addr) (len cap : Nat) (w : World) (h4 : len < 4) :
    Calls Try.prog 35 #[.slice a len cap] w fun e w' => e = .returned (.int .i32 (-1)) ∧ w' = w := by
  go_enter Try.func35, Try.ntmps35
  go_wp2
  go_ret
  exact ⟨rfl, rfl⟩

set_option maxHeartbeats 1000000 in
theorem hexRune_any (b off len cap : Nat) (f : Nat → Int) (w : World) (h4 : 4 ≤ len) (hlc : len ≤ cap) (hcap : cap ≤ 9223372036854775807)
    (hc : ∀ j, j < 4 → w.cell? ⟨b, off + j, none⟩ = some (.int .u8 (f j))) (hb : ∀ j, j < 4 → 0 ≤ f j ∧ f j ≤ 255) :
    Calls Try.prog 35 #[.slice (some ⟨b, off, none⟩) len cap] w fun e w' => e = .returned (.int .i32 (hexF f)) ∧ w' = w := by
  go_enter Try.func35, Try.ntmps35
  go_wp2
  go_loop [3, 12] (fun r i => ∃ (k : Nat), k ≤ 4 ∧ i = .int .i64 k ∧ r = .int .i32 (hexAcc f k) ∧ ∀ j, j < k → 0 ≤ hexv (f j)) (fun _ i => 4 - (intOf i).toNat)
  case atStart => exact ⟨0, by omega, rfl, rfl, fun j hj => by omega⟩
  case round =>
    obtain ⟨k, hk, rfl, rfl, hg⟩ := hrel
    obtain ⟨hR0, hR1, hR2⟩ := hexAcc_bd hk hg
    obtain ⟨R, hR⟩ : ∃ R, R = hexAcc f k := ⟨_, rfl⟩
    rw [← hR] at hR0 hR1 hR2 ⊢
    have HR : Hid (R = hexAcc f k) := hR
    have HG : Hid (∀ j, j < k → 0 ≤ hexv (f j)) := hg
    clear hR hg
    by_cases hlt : k < 4
    · have hcx := hc k hlt
      have hbx := hb k hlt
      have hR1' := hR1 hlt
      obtain ⟨c, hcc⟩ : ∃ c, c = f k := ⟨_, rfl⟩
      rw [← hcc] at hcx hbx
      have HC : Hid (c = f k) := hcc
      clear hcc hc hb hR1
      have hend : ∀ v, hexv c = v → 0 ≤ v → bits .or .i32 (R * 16) v = hexAcc f (k + 1) ∧ ∀ j, j < k + 1 → 0 ≤ hexv (f j) := by
        intro v hv h0
        have hle := hexv_le c
        refine ⟨?_, ?_⟩
        · rw [i32_or4 R v hR0 hR1' h0 (by omega), ← hv, HR.out, HC.out]; rfl
        · intro j hj
          by_cases e : j = k
          · rw [e, ← HC.out, hv]; exact h0
          · exact HG.out j (by omega)
      have HE : Hid (∀ v, hexv c = v → 0 ≤ v → bits .or .i32 (R * 16) v = hexAcc f (k + 1) ∧ ∀ j, j < k + 1 → 0 ≤ hexv (f j)) := hend
      clear hend
      rcases (show (c < 48) ∨ (48 ≤ c ∧ c ≤ 57) ∨ (57 < c ∧ c < 65) ∨ (65 ≤ c ∧ c ≤ 70) ∨ (70 < c ∧ c < 97) ∨ (97 ≤ c ∧ c ≤ 102) ∨ 102 < c from by omega) with h | ⟨ha, h⟩ | ⟨ha, h⟩ | ⟨ha, h⟩ | ⟨ha, h⟩ | ⟨ha, h⟩ | h
      · go_wp2
        go_ret
        exact ⟨ret_int (hexF_bad hlt (by rw [← HC.out, hexv_none (by omega) (by omega) (by omega)]; omega)).symm, rfl⟩
      · go_wp2
        obtain ⟨e1, e2⟩ := HE.out (c - 48) (hexv_dig ha h) (by omega)
        go_round
        case rel => exact ⟨k + 1, by omega, by go_num, val_int e1, e2⟩
        case measure => simp [intOf]; omega
      · go_wp2
        go_ret
        exact ⟨ret_int (hexF_bad hlt (by rw [← HC.out, hexv_none (by omega) (by omega) (by omega)]; omega)).symm, rfl⟩
      · go_wp2
        obtain ⟨e1, e2⟩ := HE.out (c - 65 + 10) (by rw [hexv_up ha h]; omega) (by omega)
        go_round
        case rel => exact ⟨k + 1, by omega, by go_num, val_int e1, e2⟩
        case measure => simp [intOf]; omega
      · go_wp2
        go_ret
        exact ⟨ret_int (hexF_bad hlt (by rw [← HC.out, hexv_none (by omega) (by omega) (by omega)]; omega)).symm, rfl⟩
      · go_wp2
        obtain ⟨e1, e2⟩ := HE.out (c - 97 + 10) (by rw [hexv_low ha h]; omega) (by omega)
        go_round
        case rel => exact ⟨k + 1, by omega, by go_num, val_int e1, e2⟩
        case measure => simp [intOf]; omega
      · go_wp2
        go_ret
        exact ⟨ret_int (hexF_bad hlt (by rw [← HC.out, hexv_none (by omega) (by omega) (by omega)]; omega)).symm, rfl⟩
    · obtain rfl : k = 4 := by omega
      go_wp2
      go_ret
      exact ⟨ret_int (by rw [HR.out, hexF_good HG.out]), rfl⟩

theorem zzHex_short (a : Option Addr) (len cap : Nat) (w : World) (h4 : len < 4) :
    Calls Try.prog 12 #[.slice a len cap] w fun e w' => e = .returned (.int .i32 (-1)) ∧ w' = w := by
  go_enter Try.func12, Try.ntmps12
  go_wp2_with (go_at_call 35; refine (hexRune_short _ _ _ _ h4).mono ?_; rintro e w' ⟨rfl, rfl⟩)
  go_ret
  exact ⟨rfl, rfl⟩
theorem zzHex_any (b off len cap : Nat) (f : Nat → Int) (w : World) (h4 : 4 ≤ len) (hlc : len ≤ cap) (hcap : cap ≤ 9223372036854775807)
    (hc : ∀ j, j < 4 → w.cell? ⟨b, off + j, none⟩ = some (.int .u8 (f j))) (hb : ∀ j, j < 4 → 0 ≤ f j ∧ f j ≤ 255) :
    Calls Try.prog 12 #[.slice (some ⟨b, off, none⟩) len cap] w fun e w' => e = .returned (.int .i32 (hexF f)) ∧ w' = w := by
  go_enter Try.func12, Try.ntmps12
  go_wp2_with (go_at_call 35; refine (hexRune_any _ _ _ _ f _ h4 hlc hcap hc hb).mono ?_; rintro e w' ⟨rfl, rfl⟩)
  go_ret
  exact ⟨rfl, rfl⟩

end Go.Proofs.Qxb6000752a
