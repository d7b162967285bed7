/-
  The plain mathematics of the hex laws: no walk in sight.
-/
import Derived.Laws.BitsLemmas
import Derived.Laws.BitsAllLaws
namespace Go.Proofs.Qxb6000752a

/-- What a byte is as a hex digit; -1: it is none. -/
def hexv (c : Int) : Int := if 48 ≤ c ∧ c ≤ 57 then c - 48 else if 97 ≤ c ∧ c ≤ 102 then c - 87 else if 65 ≤ c ∧ c ≤ 70 then c - 55 else -1

theorem hexv_le (c : Int) : -1 ≤ hexv c ∧ hexv c ≤ 15 := by
  unfold hexv; split
  · omega
  · split
    · omega
    · split <;> omega
theorem hexv_dig {c : Int} (h1 : 48 ≤ c) (h2 : c ≤ 57) : hexv c = c - 48 := by unfold hexv; rw [if_pos ⟨h1, h2⟩]
theorem hexv_low {c : Int} (h1 : 97 ≤ c) (h2 : c ≤ 102) : hexv c = c - 87 := by unfold hexv; rw [if_neg (by omega), if_pos ⟨h1, h2⟩]
theorem hexv_up {c : Int} (h1 : 65 ≤ c) (h2 : c ≤ 70) : hexv c = c - 55 := by unfold hexv; rw [if_neg (by omega), if_neg (by omega), if_pos ⟨h1, h2⟩]
theorem hexv_none {c : Int} (h1 : ¬ (48 ≤ c ∧ c ≤ 57)) (h2 : ¬ (97 ≤ c ∧ c ≤ 102)) (h3 : ¬ (65 ≤ c ∧ c ≤ 70)) : hexv c = -1 := by
  unfold hexv; rw [if_neg h1, if_neg h2, if_neg h3]

/-- The first k digits read. -/
def hexAcc (f : Nat → Int) : Nat → Int
  | 0 => 0
  | k + 1 => hexAcc f k * 16 + hexv (f k)
/-- What hexRune answers on four bytes. -/
def hexF (f : Nat → Int) : Int :=
  if 0 ≤ hexv (f 0) ∧ 0 ≤ hexv (f 1) ∧ 0 ≤ hexv (f 2) ∧ 0 ≤ hexv (f 3) then hexAcc f 4 else -1

theorem hexF_good {f : Nat → Int} (h : ∀ j, j < 4 → 0 ≤ hexv (f j)) : hexF f = hexAcc f 4 := by
  unfold hexF; rw [if_pos ⟨h 0 (by omega), h 1 (by omega), h 2 (by omega), h 3 (by omega)⟩]
theorem hexF_bad {f : Nat → Int} {k : Nat} (hk : k < 4) (h : hexv (f k) < 0) : hexF f = -1 := by
  unfold hexF; rw [if_neg]
  rintro ⟨h0, h1, h2, h3⟩
  match k, hk with
  | 0, _ => omega
  | 1, _ => omega
  | 2, _ => omega
  | 3, _ => omega
theorem hexAcc_bd {f : Nat → Int} {k : Nat} (hk : k ≤ 4) (h : ∀ j, j < k → 0 ≤ hexv (f j)) : 0 ≤ hexAcc f k ∧ (k < 4 → hexAcc f k < 4096) ∧ hexAcc f k < 65536 := by
  have b0 := hexv_le (f 0)
  have b1 := hexv_le (f 1)
  have b2 := hexv_le (f 2)
  have b3 := hexv_le (f 3)
  match k, hk, h with
  | 0, _, _ => simp [hexAcc]
  | 1, _, h => have := h 0 (by omega); simp [hexAcc]; omega
  | 2, _, h => have := h 0 (by omega); have := h 1 (by omega); simp [hexAcc]; omega
  | 3, _, h => have := h 0 (by omega); have := h 1 (by omega); have := h 2 (by omega); simp [hexAcc]; omega
  | 4, _, h => have := h 0 (by omega); have := h 1 (by omega); have := h 2 (by omega); have := h 3 (by omega); simp [hexAcc]; omega

theorem i32_or4 (R y : Int) (h0 : 0 ≤ R) (h1 : R < 4096) (hy0 : 0 ≤ y) (hy1 : y < 16) : bits .or .i32 (R * 16) y = R * 16 + y :=
  bits_join .i32 31 (by decide) wraps_i32 4 (R * 16) y (by omega) (by omega) (by omega) hy0 (by omega) (by omega)

/-- The k-th hex digit's number of a 16-bit value. -/
def nib (r : Int) (k : Nat) : Int := r / 2 ^ (12 - 4 * k) % 16
theorem nib_bd (r : Int) (k : Nat) : 0 ≤ nib r k ∧ nib r k < 16 := by unfold nib; omega
theorem u16_and15 (x : Int) (h0 : 0 ≤ x) (h1 : x < 65536) : bits .and .u16 x 15 = x % 16 :=
  bits_mask .u16 16 (by decide) (fun n a b => by rw [IntKind.wrap_u16]; omega) 4 (by decide) x h0 h1
theorem u16_nib (r : Int) (k : Nat) (h0 : 0 ≤ r) (h1 : r < 65536) : bits .and .u16 (r / 2 ^ (12 - 4 * k)) 15 = nib r k := by
  have hp : (0 : Int) < 2 ^ (12 - 4 * k) := Int.pow_pos (by decide)
  have a : 0 ≤ r / 2 ^ (12 - 4 * k) := Int.ediv_nonneg h0 (Int.le_of_lt hp)
  have b : r / 2 ^ (12 - 4 * k) ≤ r := Int.ediv_le_self _ h0
  exact u16_and15 _ a (by omega)
/-- The lower-case digit of a number below 16. -/
def lowd (n : Nat) : Nat := if n < 10 then 48 + n else 87 + n
theorem lowd_at (n : Nat) (h : n < (ByteArray.mk #[48, 49, 50, 51, 52, 53, 54, 55, 56, 57, 97, 98, 99, 100, 101, 102]).size) :
    ((ByteArray.mk #[48, 49, 50, 51, 52, 53, 54, 55, 56, 57, 97, 98, 99, 100, 101, 102])[n]'h).toNat = lowd n := by
  have hn : n < 16 := h
  match n, hn with
  | 0, _ => rfl
  | 1, _ => rfl
  | 2, _ => rfl
  | 3, _ => rfl
  | 4, _ => rfl
  | 5, _ => rfl
  | 6, _ => rfl
  | 7, _ => rfl
  | 8, _ => rfl
  | 9, _ => rfl
  | 10, _ => rfl
  | 11, _ => rfl
  | 12, _ => rfl
  | 13, _ => rfl
  | 14, _ => rfl
  | 15, _ => rfl
  | n + 16, hn => exact absurd hn (by omega)
theorem lowd_small {n : Nat} (h : n < 10) : lowd n = 48 + n := by unfold lowd; rw [if_pos h]
theorem lowd_big {n : Nat} (h : 10 ≤ n) : lowd n = 87 + n := by unfold lowd; rw [if_neg (by omega)]
theorem hexF_nibs {f : Nat → Int} {r : Int} (h0 : 0 ≤ r) (h1 : r < 65536) (h : ∀ j, j < 4 → hexv (f j) = nib r j) : hexF f = r := by
  have e0 := h 0 (by omega)
  have e1 := h 1 (by omega)
  have e2 := h 2 (by omega)
  have e3 := h 3 (by omega)
  rw [hexF_good (fun j hj => by rw [h j hj]; exact (nib_bd r j).1)]
  simp only [hexAcc, e0, e1, e2, e3]
  simp only [nib]
  simp
  omega

end Go.Proofs.Qxb6000752a
