/-
  The walk of str (22).
-/
import Derived.Test.Qxb6000752aWord
namespace Go.Proofs.Qxb6000752a
open Go.RowKit

theorem both_w (base jb : Nat) (wv : Value) (C S : List Int) (n : Nat) (c : Int) (w0 w : World) (hj : JW base w0 jb wv C S n w) (hC : C.length ≤ 1099511627776) (hS : S.length ≤ 1099511627776) (hb : base ≤ jb) :
    Calls Try.prog 20 #[.pointer (some ⟨jb, 0, none⟩), .int .u8 c] w fun e w' => e = .returned (.tuple #[]) ∧ JW base w0 jb wv (C ++ [c]) (S ++ [c]) n w' := by
  refine (both_j base jb wv C S n c w hj.1 hC hS hb).mono ?_
  rintro e w' ⟨rfl, h1, h2⟩
  exact ⟨rfl, h1, hj.2.trans h2⟩

theorem esc_two {c : Int} (h : c = 34 ∨ c = 92) : esc c = [92, c] := by unfold esc; rw [if_pos h]
theorem esc_six {c : Int} (h : ¬ (c = 34 ∨ c = 92)) (h2 : c < 32 ∨ 127 ≤ c) {n1 n2 : Nat} (e1 : c / 16 = (n1 : Int)) (e2 : c % 16 = (n2 : Int)) : esc c = [92, 117, 48, 48, (lowd n1 : Int), (lowd n2 : Int)] := by
  unfold esc; rw [if_neg h, if_pos h2, e1, e2]; rfl
theorem esc_one {c : Int} (h : ¬ (c = 34 ∨ c = 92)) (h2 : ¬ (c < 32 ∨ 127 ≤ c)) : esc c = [c] := by unfold esc; rw [if_neg h, if_neg h2]

/-- What is written behind i bytes of the string. -/
def half (C xs : List Int) (i : Nat) : List Int := C ++ [34] ++ escs (xs.take i)
theorem half_zero (C xs : List Int) : half C xs 0 = C ++ [34] := by simp [half, escs]
theorem half_len {C xs : List Int} {i : Nat} (hx : xs.length ≤ 1000) (hC : C.length ≤ 1099511600000) : (half C xs i).length ≤ 1099511610000 := by
  have h1 := escs_length (xs.take i)
  have h2 : (xs.take i).length ≤ xs.length := by simp; omega
  simp [half]; omega
theorem half_next {C xs : List Int} {i : Nat} (hi : i < xs.length) {c : Int} (hc : c = xs.getD i 0) {t : List Int} (ht : esc c = t) : half C xs i ++ t = half C xs (i + 1) := by
  unfold half
  rw [take_snocD hi, escs_snoc, ← hc, ht]; simp
theorem half_end (C xs : List Int) : half C xs xs.length ++ [34] = C ++ qs xs := by simp [half, qs]

set_option maxHeartbeats 3200000 in
theorem str_j (base jb : Nat) (wv : Value) (C S : List Int) (n : Nat) (a : Option Addr) (len cap b off : Nat) (xs : List Int) (w0 w : World) (hj : JW base w0 jb wv C S n w) (hC : C.length ≤ 1099511600000) (hS : S.length ≤ 1099511600000) (hb : base ≤ jb)
    (hx : xs.length = len) (hlen : len ≤ 1000) (hrd : Reads .u8 w0 a b off xs) (hold : 0 < len → b < base) (hbd : ∀ j, 0 ≤ xs.getD j 0 ∧ xs.getD j 0 ≤ 255) :
    Calls Try.prog 22 #[.pointer (some ⟨jb, 0, none⟩), .slice a len cap] w fun e w' => e = .returned (.tuple #[]) ∧ JW base w0 jb wv (C ++ qs xs) (S ++ qs xs) n w' := by
  have HX : Hid (xs.length = len) := hx
  have HRD : Hid (Reads .u8 w0 a b off xs) := hrd
  have HBD : Hid (∀ j, 0 ≤ xs.getD j 0 ∧ xs.getD j 0 ≤ 255) := hbd
  have HOLD : Hid (0 < len → b < base) := hold
  have HHC : Hid (∀ i, (half C xs i).length ≤ 1099511610000) := fun i => half_len (by omega) hC
  have HHS : Hid (∀ i, (half S xs i).length ≤ 1099511610000) := fun i => half_len (by omega) hS
  clear hx hrd hbd hold
  go_enter Try.func22, Try.ntmps22
  go_wp2_with fail
  refine (both_w base jb wv C S n 34 w0 _ hj (by omega) (by omega) hb).mono ?_
  clear hj
  rintro e w1 ⟨rfl, hJ⟩
  rw [← half_zero C xs, ← half_zero S xs] at hJ
  go_wp2
  go_loopw [4] (fun i wr => ∃ (k : Nat), k ≤ len ∧ i = .int .i64 k ∧ JW base w0 jb wv (half C xs k) (half S xs k) n wr) (fun i _ => len - (intOf i).toNat)
  case atStart => exact ⟨0, Nat.zero_le _, rfl, hJ⟩
  case round =>
    clear hJ
    obtain ⟨k, hk, rfl, hJ⟩ := hrel
    by_cases hlt : k < len
    · obtain rfl := HRD.out.pos (by rw [HX.out]; omega)
      have hkX : k < xs.length := by rw [HX.out]; exact hlt
      have hcx : wr.cell? ⟨b, off + k, none⟩ = some (.int .u8 (xs.getD k 0)) := (hJ.2.cell (by exact HOLD.out (by omega))).trans (HRD.out.cell k hkX)
      have hcb := HBD.out k
      obtain ⟨c, hc⟩ : ∃ c, c = xs.getD k 0 := ⟨_, rfl⟩
      rw [← hc] at hcx hcb
      obtain ⟨hc0, hc1⟩ := hcb
      have hnx : ∀ t, esc c = t → half C xs k ++ t = half C xs (k + 1) ∧ half S xs k ++ t = half S xs (k + 1) := fun t ht => ⟨half_next hkX hc ht, half_next hkX hc ht⟩
      have HNX : Hid (∀ t, esc c = t → half C xs k ++ t = half C xs (k + 1) ∧ half S xs k ++ t = half S xs (k + 1)) := hnx
      have hA := HHC.out k
      have hB := HHS.out k
      obtain ⟨A, hAe⟩ : ∃ A, A = half C xs k := ⟨_, rfl⟩
      obtain ⟨B, hBe⟩ : ∃ B, B = half S xs k := ⟨_, rfl⟩
      rw [← hAe] at hA hJ HNX
      rw [← hBe] at hB hJ HNX
      clear hc hnx hAe hBe hkX
      by_cases h34 : c = 34
      · subst h34
        go_wp2_with (go_at_call 20; refine (both_w base jb wv _ _ n _ w0 _ hJ (by first | omega | (simp; omega)) (by first | omega | (simp; omega)) hb).mono ?_; clear hJ; rintro e w' ⟨rfl, hJ⟩)
        rw [List.append_assoc, List.append_assoc] at hJ
        have hN := HNX.out [92, 34] (esc_two (.inl rfl))
        simp only [List.cons_append, List.nil_append] at hJ
        rw [hN.1, hN.2] at hJ
        go_roundw
        case rel => exact ⟨k + 1, by omega, by go_num, hJ⟩
        case measure => simp [intOf]; omega
      by_cases h92 : c = 92
      · subst h92
        go_wp2_with (go_at_call 20; refine (both_w base jb wv _ _ n _ w0 _ hJ (by first | omega | (simp; omega)) (by first | omega | (simp; omega)) hb).mono ?_; clear hJ; rintro e w' ⟨rfl, hJ⟩)
        rw [List.append_assoc, List.append_assoc] at hJ
        have hN := HNX.out [92, 92] (esc_two (.inr rfl))
        simp only [List.cons_append, List.nil_append] at hJ
        rw [hN.1, hN.2] at hJ
        go_roundw
        case rel => exact ⟨k + 1, by omega, by go_num, hJ⟩
        case measure => simp [intOf]; omega
      have b34 : (c == 34) = false := by simpa using h34
      have b92 : (c == 92) = false := by simpa using h92
      have HNE : Hid (¬ (c = 34 ∨ c = 92)) := by rw [Hid]; omega
      clear h34 h92
      by_cases hpl : 32 ≤ c ∧ c < 127
      · obtain ⟨hp1, hp2⟩ := hpl
        go_wp2_with (go_at_call 20; refine (both_w base jb wv _ _ n _ w0 _ hJ (by first | omega | (simp; omega)) (by first | omega | (simp; omega)) hb).mono ?_; clear hJ; rintro e w' ⟨rfl, hJ⟩)
        have hN := HNX.out [c] (esc_one HNE.out (by omega))
        rw [hN.1, hN.2] at hJ
        go_roundw
        case rel => exact ⟨k + 1, by omega, by go_num, hJ⟩
        case measure => simp [intOf]; omega
      · obtain ⟨n1, hn1⟩ : ∃ n1 : Nat, c / 16 = (n1 : Int) := ⟨(c / 16).toNat, by omega⟩
        obtain ⟨n2, hn2⟩ : ∃ n2 : Nat, c % 16 = (n2 : Int) := ⟨(c % 16).toNat, by omega⟩
        have hE := esc_six HNE.out (by omega) hn1 hn2
        have m1 : n1 < 16 := by omega
        have m2 : n2 < 16 := by omega
        have l1 := lowd_at n1 m1
        have l2 := lowd_at n2 m2
        have hn2' : bits .and .u8 c 15 = (n2 : Int) := by rw [u8_and15 c hc0 (by omega), hn2]
        obtain ⟨L1, e1⟩ : ∃ L1, L1 = lowd n1 := ⟨_, rfl⟩
        obtain ⟨L2, e2⟩ : ∃ L2, L2 = lowd n2 := ⟨_, rfl⟩
        rw [← e1] at l1 hE
        rw [← e2] at l2 hE
        have HE : Hid (esc c = [92, 117, 48, 48, (L1 : Int), (L2 : Int)]) := hE
        clear e1 e2 hn2 hE
        rcases (show c < 32 ∨ (32 ≤ c ∧ 127 ≤ c) from by omega) with hr | ⟨hr1, hr2⟩
        all_goals
          clear hpl
          go_wp2_with (go_at_call 20; refine (both_w base jb wv _ _ n _ w0 _ hJ (by first | omega | (simp; omega)) (by first | omega | (simp; omega)) hb).mono ?_; clear hJ; rintro e w' ⟨rfl, hJ⟩)
          have hN := HNX.out _ HE.out
          simp only [List.append_assoc, List.cons_append, List.nil_append] at hJ
          rw [hN.1, hN.2] at hJ
          go_roundw
          case rel => exact ⟨k + 1, by omega, by go_num, hJ⟩
          case measure => simp [intOf]; omega
    · obtain rfl : k = len := by omega
      have hA := HHC.out k
      have hB := HHS.out k
      have e1 : half C xs k ++ [34] = C ++ qs xs := by rw [← HX.out]; exact half_end C xs
      have e2 : half S xs k ++ [34] = S ++ qs xs := by rw [← HX.out]; exact half_end S xs
      have E1 : Hid (half C xs k ++ [34] = C ++ qs xs) := e1
      have E2 : Hid (half S xs k ++ [34] = S ++ qs xs) := e2
      clear e1 e2
      go_wp2_with (go_at_call 20; refine (both_w base jb wv _ _ n _ w0 _ hJ (by omega) (by omega) hb).mono ?_; clear hJ; rintro e w' ⟨rfl, hJ⟩)
      rw [E1.out, E2.out] at hJ
      go_end0
      exact ⟨rfl, hJ⟩

end Go.Proofs.Qxb6000752a
