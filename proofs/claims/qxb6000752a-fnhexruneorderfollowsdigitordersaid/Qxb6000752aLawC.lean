/-
  The walk of FnHexRuneOrderFollowsDigitOrder (5).
-/
import Derived.Test.Qxb6000752aHexSet
import Derived.Test.Qxb6000752aMem
namespace Go.Proofs.Qxb6000752a
open Go.RowKit

def sw (len : Nat) (f : Nat → Int) : Bool := decide (4 ≤ len) && four f
theorem startsWith_gen (a : Option Addr) (b off len cap : Nat) (xs : List Int) (w : World) (hx : xs.length = len) (hrd : Reads .u8 w a b off xs) :
    Calls Try.prog 15 #[.slice a len cap] w fun e w' => e = .returned (.bool (sw len fun j => xs.getD j 0)) ∧ w' = w := by
  by_cases h4 : 4 ≤ len
  · have := hrd.pos (by omega)
    rw [this]
    refine (startsWith_any b off len cap (fun j => xs.getD j 0) w h4 (fun j hj => hrd.cell j (by omega))).mono ?_
    rintro e w' ⟨rfl, rfl⟩
    exact ⟨ret_bool (by simp [sw, h4]), rfl⟩
  · refine (startsWith_short a len cap w (by omega)).mono ?_
    rintro e w' ⟨rfl, rfl⟩
    exact ⟨ret_bool (by simp [sw, h4]), rfl⟩

theorem lowc_mono {c d : Int} (hc : 0 ≤ hexv c) (hd : 0 ≤ hexv d) : (lowc c < lowc d ↔ hexv c < hexv d) := by
  have key : ∀ x, 0 ≤ hexv x → (lowc x = 48 + hexv x ∧ hexv x ≤ 9) ∨ (lowc x = 87 + hexv x ∧ 10 ≤ hexv x ∧ hexv x ≤ 15) := by
    intro x hx
    by_cases h1 : 48 ≤ x ∧ x ≤ 57
    · rw [hexv_dig h1.1 h1.2]; left; unfold lowc; rw [if_neg (by omega)]; omega
    · by_cases h2 : 97 ≤ x ∧ x ≤ 102
      · rw [hexv_low h2.1 h2.2]; right; unfold lowc; rw [if_neg (by omega)]; omega
      · by_cases h3 : 65 ≤ x ∧ x ≤ 70
        · rw [hexv_up h3.1 h3.2]; right; unfold lowc; rw [if_pos h3]; omega
        · rw [hexv_none h1 h2 h3] at hx; omega
  have := key c hc
  have := key d hd
  omega
theorem lowc_bd {c : Int} (h0 : 0 ≤ c) (h1 : c ≤ 255) : 0 ≤ lowc c ∧ lowc c ≤ 255 := by unfold lowc; split <;> omega

theorem acc_lt {f g : Nat → Int} (hf : ∀ j, j < 4 → 0 ≤ hexv (f j)) (hg : ∀ j, j < 4 → 0 ≤ hexv (g j)) {k : Nat} (hk : k < 4) (he : ∀ j, j < k → hexv (f j) = hexv (g j)) (hlt : hexv (f k) < hexv (g k)) : hexAcc f 4 < hexAcc g 4 := by
  have f0 := hf 0 (by omega)
  have f1 := hf 1 (by omega)
  have f2 := hf 2 (by omega)
  have f3 := hf 3 (by omega)
  have g0 := hg 0 (by omega)
  have g1 := hg 1 (by omega)
  have g2 := hg 2 (by omega)
  have g3 := hg 3 (by omega)
  have a0 := hexv_le (f 0)
  have a1 := hexv_le (f 1)
  have a2 := hexv_le (f 2)
  have a3 := hexv_le (f 3)
  have b0 := hexv_le (g 0)
  have b1 := hexv_le (g 1)
  have b2 := hexv_le (g 2)
  have b3 := hexv_le (g 3)
  simp only [hexAcc]
  match k, hk, he, hlt with
  | 0, _, he, hlt => omega
  | 1, _, he, hlt => have := he 0 (by omega); omega
  | 2, _, he, hlt => have := he 0 (by omega); have := he 1 (by omega); omega
  | 3, _, he, hlt => have := he 0 (by omega); have := he 1 (by omega); have := he 2 (by omega); omega
theorem acc_eq {f g : Nat → Int} (he : ∀ j, j < 4 → hexv (f j) = hexv (g j)) : hexAcc f 4 = hexAcc g 4 := by
  simp only [hexAcc, he 0 (by omega), he 1 (by omega), he 2 (by omega), he 3 (by omega)]

/-- What the comparing loop knows: how it stands after k digits. -/
def Cmp (f g : Nat → Int) (k : Nat) (c : Int) : Prop :=
  (c = 0 ∧ ∀ j, j < k → hexv (f j) = hexv (g j)) ∨ (c = -1 ∧ hexAcc f 4 < hexAcc g 4) ∨ (c = 1 ∧ hexAcc g 4 < hexAcc f 4)

set_option maxHeartbeats 1000000 in
theorem order_big (a1 a2 : Option Addr) (l1 c1 l2 c2 : Nat) (w : World) (h1 : l1 ≤ 9223372036854775807) (h2 : l2 ≤ 9223372036854775807) (hle : 1048576 < l1 + l2) :
    Calls Try.prog 5 #[.slice a1 l1 c1, .slice a2 l2 c2] w fun e w' => e = .returned (.bool true) ∧ Below w.heap.size w w' := by
  by_cases hb1 : 1048576 < l1
  · go_enter Try.func5, Try.ntmps5
    go_wp2
    go_ret
    exact ⟨rfl, Below.refl _ _⟩
  · by_cases hb2 : 1048576 < l2
    · go_enter Try.func5, Try.ntmps5
      go_wp2
      go_ret
      exact ⟨rfl, Below.refl _ _⟩
    · go_enter Try.func5, Try.ntmps5
      go_wp2
      go_ret
      exact ⟨rfl, Below.refl _ _⟩

set_option maxHeartbeats 3200000 in
theorem order_any (a1 a2 : Option Addr) (l1 c1 l2 c2 b1 o1 b2 o2 : Nat) (xs ys : List Int) (w : World) (hle : l1 + l2 ≤ 1048576) (hx : xs.length = l1) (hy : ys.length = l2)
    (R1 : Reads .u8 w a1 b1 o1 xs) (R2 : Reads .u8 w a2 b2 o2 ys) (hbx : ∀ j, 0 ≤ xs.getD j 0 ∧ xs.getD j 0 ≤ 255) (hby : ∀ j, 0 ≤ ys.getD j 0 ∧ ys.getD j 0 ≤ 255) :
    Calls Try.prog 5 #[.slice a1 l1 c1, .slice a2 l2 c2] w fun e w' => e = .returned (.bool true) ∧ Below w.heap.size w w' := by
  have HX : Hid (xs.length = l1) := hx
  have HY : Hid (ys.length = l2) := hy
  have HR1 : Hid (Reads .u8 w a1 b1 o1 xs) := R1
  have HR2 : Hid (Reads .u8 w a2 b2 o2 ys) := R2
  obtain ⟨F, hF⟩ : ∃ F : Nat → Int, F = fun j => xs.getD j 0 := ⟨_, rfl⟩
  obtain ⟨G, hG⟩ : ∃ G : Nat → Int, G = fun j => ys.getD j 0 := ⟨_, rfl⟩
  have hb : ∀ j, j < 4 → 0 ≤ F j ∧ F j ≤ 255 := fun j _ => by rw [hF]; exact hbx j
  have hbg : ∀ j, j < 4 → 0 ≤ G j ∧ G j ≤ 255 := fun j _ => by rw [hG]; exact hby j
  have HB : Hid (∀ j, j < 4 → 0 ≤ F j ∧ F j ≤ 255) := hb
  have HBG : Hid (∀ j, j < 4 → 0 ≤ G j ∧ G j ≤ 255) := hbg
  have HF : Hid (F = fun j => xs.getD j 0) := hF
  have HG : Hid (G = fun j => ys.getD j 0) := hG
  clear hx hy R1 R2 hbx hby hb hbg hF hG
  go_enter Try.func5, Try.ntmps5
  go_wp2_with (go_at_call 17; go_in)
  refine (startsWith_gen a1 b1 o1 l1 c1 xs _ HX.out HR1.out).mono ?_
  rintro e w1 ⟨rfl, rfl⟩
  rw [← HF.out]
  cases hs1 : sw l1 F
  · clear hs1
    go_wp2
    go_ret
    exact ⟨rfl, Below.refl _ _⟩
  · have HS1 : Hid (sw l1 F = true) := hs1
    clear hs1
    go_wp2_with fail
    refine (startsWith_gen a2 b2 o2 l2 c2 ys _ HY.out HR2.out).mono ?_
    rintro e w1 ⟨rfl, rfl⟩
    rw [← HG.out]
    cases hs2 : sw l2 G
    · clear hs2
      go_wp2
      go_ret
      exact ⟨rfl, Below.refl _ _⟩
    · have h1 := HS1.out
      simp only [sw, Bool.and_eq_true, decide_eq_true_eq] at h1 hs2
      obtain ⟨h41, hf1⟩ := h1
      obtain ⟨h42, hf2⟩ := hs2
      have hall1 := four_all hf1
      have hall2 := four_all hf2
      have hE1 := hexF_good hall1
      have hE2 := hexF_good hall2
      have hp1 := HR1.out.pos (by rw [HX.out]; omega)
      have hp2 := HR2.out.pos (by rw [HY.out]; omega)
      subst hp1
      subst hp2
      have HA1 : Hid (∀ j, j < 4 → 0 ≤ hexv (F j)) := hall1
      have HA2 : Hid (∀ j, j < 4 → 0 ≤ hexv (G j)) := hall2
      have hA := hexAcc_bd (Nat.le_refl 4) hall1
      have hB := hexAcc_bd (Nat.le_refl 4) hall2
      have HE1 : Hid (hexF F = hexAcc F 4) := hE1
      have HE2 : Hid (hexF G = hexAcc G 4) := hE2
      clear HS1 hf1 hf2 hall1 hall2 hE1 hE2
      go_wp2_with fail
      refine (cloneBytes_any _ l1 c1 b1 o1 xs _ HX.out (by omega) HR1.out).mono ?_
      rintro e w2 ⟨rfl, hk1, hbel1⟩
      have hR2' := HR2.out.below hbel1
      have hz1 := hbel1.size
      have hlt1 := hk1.lt
      go_wp2_with fail
      refine (cloneBytes_any _ l2 c2 b2 o2 ys _ HY.out (by omega) hR2').mono ?_
      rintro e w3 ⟨rfl, hk2, hbel2⟩
      have hk13 := hk1.below hbel2 hlt1
      have hbel := hbel1.trans (hbel2.mono hz1)
      have hc1 : ∀ j, j < 4 → w3.cell? ⟨w1.heap.size, 0 + j, none⟩ = some (.int .u8 (F j)) := by
        intro j hj
        rw [Nat.zero_add, hk13.cell (by rw [HX.out]; omega), HF.out]
      have hc2 : ∀ j, j < 4 → w3.cell? ⟨w2.heap.size, 0 + j, none⟩ = some (.int .u8 (G j)) := by
        intro j hj
        rw [Nat.zero_add, hk2.cell (by rw [HY.out]; omega), HG.out]
      have HC1 : Hid (∀ j, j < 4 → w3.cell? ⟨w1.heap.size, 0 + j, none⟩ = some (.int .u8 (F j))) := hc1
      have HC2 : Hid (∀ j, j < 4 → w3.cell? ⟨w2.heap.size, 0 + j, none⟩ = some (.int .u8 (G j))) := hc2
      clear hc1 hc2 hk13 hk1 hk2 hbel1 hbel2 hR2'
      go_wp2_with fail
      refine (zzHex_any w1.heap.size 0 l1 l1 F _ h41 (by omega) (by omega) HC1.out HB.out).mono ?_
      rw [HE1.out]
      rintro e w4 ⟨rfl, rfl⟩
      go_wp2_with fail
      refine (zzHex_any w2.heap.size 0 l2 l2 G _ h42 (by omega) (by omega) HC2.out HBG.out).mono ?_
      rw [HE2.out]
      rintro e w5 ⟨rfl, rfl⟩
      have hcmp0 : Cmp F G 0 0 := .inl ⟨rfl, fun j hj => by omega⟩
      have hcl : ∀ k c, Cmp F G k c → (c = 0 ∧ ∀ j, j < k → hexv (F j) = hexv (G j)) ∨ (c = -1 ∧ hexAcc F 4 < hexAcc G 4) ∨ (c = 1 ∧ hexAcc G 4 < hexAcc F 4) := fun k c h => h
      have heq : (∀ j, j < 4 → hexv (F j) = hexv (G j)) → hexAcc F 4 = hexAcc G 4 := acc_eq
      have hl1 : ∀ k, k < 4 → (∀ j, j < k → hexv (F j) = hexv (G j)) → hexv (F k) < hexv (G k) → hexAcc F 4 < hexAcc G 4 := fun k hk he hlt => acc_lt HA1.out HA2.out hk he hlt
      have hl2 : ∀ k, k < 4 → (∀ j, j < k → hexv (F j) = hexv (G j)) → hexv (G k) < hexv (F k) → hexAcc G 4 < hexAcc F 4 := fun k hk he hlt => acc_lt HA2.out HA1.out hk (fun j hj => (he j hj).symm) hlt
      obtain ⟨A, hAe⟩ : ∃ A, A = hexAcc F 4 := ⟨_, rfl⟩
      obtain ⟨B, hBe⟩ : ∃ B, B = hexAcc G 4 := ⟨_, rfl⟩
      rw [← hAe, ← hBe] at hcl heq hl1 hl2 ⊢
      rw [← hAe] at hA
      rw [← hBe] at hB
      obtain ⟨hA0, _, hA1⟩ := hA
      obtain ⟨hB0, _, hB1⟩ := hB
      have HCL : Hid (∀ k c, Cmp F G k c → (c = 0 ∧ ∀ j, j < k → hexv (F j) = hexv (G j)) ∨ (c = -1 ∧ A < B) ∨ (c = 1 ∧ B < A)) := hcl
      have HEQ : Hid ((∀ j, j < 4 → hexv (F j) = hexv (G j)) → A = B) := heq
      have HL1 : Hid (∀ k, k < 4 → (∀ j, j < k → hexv (F j) = hexv (G j)) → hexv (F k) < hexv (G k) → A < B) := hl1
      have HL2 : Hid (∀ k, k < 4 → (∀ j, j < k → hexv (F j) = hexv (G j)) → hexv (G k) < hexv (F k) → B < A) := hl2
      have HAe : Hid (A = hexAcc F 4) := hAe
      have HBe : Hid (B = hexAcc G 4) := hBe
      clear hcl heq hl1 hl2 hAe hBe HE1 HE2 HR1 HR2
      go_wp2
      go_loop [7, 8] (fun sc si => ∃ (k : Nat) (c : Int), k ≤ 4 ∧ si = .int .i64 k ∧ sc = .int .i64 c ∧ Cmp F G k c) (fun _ i => 4 - (intOf i).toNat)
      case atStart => exact ⟨0, 0, Nat.zero_le _, rfl, rfl, hcmp0⟩
      case round =>
        obtain ⟨k, c, hk, rfl, rfl, hcm⟩ := hrel
        rcases HCL.out k c hcm with ⟨rfl, he⟩ | ⟨rfl, hab⟩ | ⟨rfl, hab⟩
        · have HE : Hid (∀ j, j < k → hexv (F j) = hexv (G j)) := he
          clear he hcm hcmp0
          by_cases hlt : k < 4
          · have hx := HC1.out k hlt
            have hy := HC2.out k hlt
            rw [Nat.zero_add] at hx hy
            obtain ⟨hx0, hx1⟩ := HB.out k hlt
            obtain ⟨hy0, hy1⟩ := HBG.out k hlt
            have hmo1 := lowc_mono (HA1.out k hlt) (HA2.out k hlt)
            have hmo2 := lowc_mono (HA2.out k hlt) (HA1.out k hlt)
            obtain ⟨x, hxe⟩ : ∃ x, x = F k := ⟨_, rfl⟩
            obtain ⟨y, hye⟩ : ∃ y, y = G k := ⟨_, rfl⟩
            rw [← hxe] at hx hx0 hx1 hmo1 hmo2
            rw [← hye] at hy hy0 hy1 hmo1 hmo2
            have HXE : Hid (x = F k) := hxe
            have HYE : Hid (y = G k) := hye
            have HM1 : Hid (lowc x < lowc y ↔ hexv x < hexv y) := hmo1
            have HM2 : Hid (lowc y < lowc x ↔ hexv y < hexv x) := hmo2
            clear hxe hye hmo1 hmo2
            rcases (show lowc x < lowc y ∨ lowc y < lowc x ∨ (¬ lowc x < lowc y ∧ ¬ lowc y < lowc x) from by omega) with h | h | ⟨h, h'⟩
            · go_wp2_with (go_at_call 16; refine (lowerHex_any _ _ (by assumption) (by assumption)).mono ?_; rintro e w' ⟨rfl, rfl⟩)
              go_round
              case rel =>
                have hAB := HL1.out k hlt HE.out (by rw [← HXE.out, ← HYE.out]; exact HM1.out.1 h)
                exact ⟨k + 1, -1, by omega, by go_num, rfl, .inr (.inl ⟨rfl, by rw [← HAe.out, ← HBe.out]; exact hAB⟩)⟩
              case measure => simp [intOf]; omega
            · have h2 : ¬ lowc x < lowc y := by omega
              go_wp2_with (go_at_call 16; refine (lowerHex_any _ _ (by assumption) (by assumption)).mono ?_; rintro e w' ⟨rfl, rfl⟩)
              go_round
              case rel =>
                have hAB := HL2.out k hlt HE.out (by rw [← HXE.out, ← HYE.out]; exact HM2.out.1 h)
                exact ⟨k + 1, 1, by omega, by go_num, rfl, .inr (.inr ⟨rfl, by rw [← HAe.out, ← HBe.out]; exact hAB⟩)⟩
              case measure => simp [intOf]; omega
            · go_wp2_with (go_at_call 16; refine (lowerHex_any _ _ (by assumption) (by assumption)).mono ?_; rintro e w' ⟨rfl, rfl⟩)
              go_round
              case rel =>
                refine ⟨k + 1, 0, by omega, by go_num, rfl, .inl ⟨rfl, fun j hj => ?_⟩⟩
                by_cases e : j = k
                · have n1 : ¬ hexv x < hexv y := fun hh => absurd (HM1.out.2 hh) (by omega)
                  have n2 : ¬ hexv y < hexv x := fun hh => absurd (HM2.out.2 hh) (by omega)
                  rw [e, ← HXE.out, ← HYE.out]; omega
                · exact HE.out j (by omega)
              case measure => simp [intOf]; omega
          · obtain rfl : k = 4 := by omega
            have hab := HEQ.out HE.out
            have hbt : (A == B) = true := by simp [hab]
            clear hab
            go_wp2
            go_ret
            exact ⟨rfl, hbel⟩
        · by_cases hlt : k < 4
          · go_wp2
            go_ret
            exact ⟨rfl, hbel⟩
          · go_wp2
            go_ret
            exact ⟨rfl, hbel⟩
        · by_cases hlt : k < 4
          · go_wp2
            go_ret
            exact ⟨rfl, hbel⟩
          · go_wp2
            go_ret
            exact ⟨rfl, hbel⟩

end Go.Proofs.Qxb6000752a
