/-
  The walks of inSet (29), lowerHex (16), startsWithFourHex (15).
-/
import Derived.Test.Qxb6000752aHex
namespace Go.Proofs.Qxb6000752a
open Go.RowKit

/-- c is among the bytes of s. -/
def inB (s : ByteArray) (c : Int) : Bool := s.data.toList.any fun x => (x.toNat : Int) == c
/-- None of the first k bytes of s is c. -/
def noneB (s : ByteArray) (k : Nat) (c : Int) : Prop := ∀ x ∈ s.data.toList.take k, ¬ (x.toNat : Int) = c

theorem none_zero (s : ByteArray) (c : Int) : noneB s 0 c := fun x hx => by simp at hx
theorem none_succ {s : ByteArray} {k : Nat} {c : Int} (h : noneB s k c) (hk : k < s.size) (hne : ¬ (s[k].toNat : Int) = c) : noneB s (k + 1) c := by
  intro x hx
  have hk' : k < s.data.toList.length := by simpa using hk
  rw [List.take_succ_eq_append_getElem hk'] at hx
  rcases List.mem_append.1 hx with h1 | h1
  · exact h x h1
  · have : x = s.data.toList[k] := by simpa using h1
    rw [this]; exact hne
theorem none_end {s : ByteArray} {c : Int} (h : noneB s s.size c) : inB s c = false := by
  unfold inB
  rw [List.any_eq_false]
  intro x hx
  have hl : s.data.toList.length ≤ s.size := by simp
  have := h x (by rw [List.take_of_length_le hl]; exact hx)
  simpa using this
theorem some_in {s : ByteArray} {k : Nat} {c : Int} (hk : k < s.size) (he : (s[k].toNat : Int) = c) : inB s c = true := by
  unfold inB
  rw [List.any_eq_true]
  have hk' : k < s.data.toList.length := by simpa using hk
  refine ⟨s.data.toList[k], List.getElem_mem hk', ?_⟩
  have : (s.data.toList[k].toNat : Int) = c := he
  simpa using this

set_option maxHeartbeats 1000000 in
theorem inSet_any (s : ByteArray) (c : Int) (w : World) (hs : s.size ≤ 1048576) :
    Calls Try.prog 29 #[.string s, .int .u8 c] w fun e w' => e = .returned (.bool (inB s c)) ∧ w' = w := by
  go_enter Try.func29, Try.ntmps29
  go_wp2
  go_loop [5] (fun i => ∃ (k : Nat), k ≤ s.size ∧ i = .int .i64 k ∧ noneB s k c) (fun i => s.size - (intOf i).toNat)
  case atStart => exact ⟨0, Nat.zero_le _, rfl, none_zero s c⟩
  case round =>
    obtain ⟨k, hk, rfl, hn⟩ := hrel
    have HN : Hid (noneB s k c) := hn
    clear hn
    by_cases hlt : k < s.size
    · by_cases he : (s[k].toNat : Int) = c
      · have hb : ((s[k].toNat : Int) == c) = true := by simpa using he
        have HE : Hid ((s[k].toNat : Int) = c) := he
        clear he
        go_wp2
        go_ret
        exact ⟨ret_bool (some_in hlt HE.out).symm, rfl⟩
      · have hb : ((s[k].toNat : Int) == c) = false := by simpa using he
        have HE : Hid (¬ (s[k].toNat : Int) = c) := he
        clear he
        go_wp2
        go_round
        case rel => exact ⟨k + 1, by omega, by go_num, none_succ HN.out hlt HE.out⟩
        case measure => simp [intOf]; omega
    · obtain rfl : k = s.size := by omega
      go_wp2
      go_ret
      exact ⟨ret_bool (none_end HN.out).symm, rfl⟩

/-- A letter digit in lower case. -/
def lowc (c : Int) : Int := if 65 ≤ c ∧ c ≤ 70 then c + 32 else c
theorem lowerHex_any (c : Int) (w : World) (h0 : 0 ≤ c) (h1 : c ≤ 255) :
    Calls Try.prog 16 #[.int .u8 c] w fun e w' => e = .returned (.int .u8 (lowc c)) ∧ w' = w := by
  rcases (show c < 65 ∨ (65 ≤ c ∧ c ≤ 70) ∨ 70 < c from by omega) with h | ⟨ha, hb⟩ | h
  · go_enter Try.func16, Try.ntmps16
    go_wp2
    go_ret
    exact ⟨ret_int (by unfold lowc; rw [if_neg (by omega)]), rfl⟩
  · go_enter Try.func16, Try.ntmps16
    go_wp2
    go_ret
    exact ⟨ret_int (by unfold lowc; rw [if_pos ⟨ha, hb⟩]), rfl⟩
  · go_enter Try.func16, Try.ntmps16
    go_wp2
    go_ret
    exact ⟨ret_int (by unfold lowc; rw [if_neg (by omega)]), rfl⟩

theorem inB_hex (c : Int) : inB ⟨#[48, 49, 50, 51, 52, 53, 54, 55, 56, 57, 97, 98, 99, 100, 101, 102, 65, 66, 67, 68, 69, 70]⟩ c = decide (0 ≤ hexv c) := by
  rw [Bool.eq_iff_iff]
  simp only [inB, List.any_cons, List.any_nil, Bool.or_eq_true, beq_iff_eq, decide_eq_true_eq]
  have e : (0 ≤ hexv c) ↔ ((48 ≤ c ∧ c ≤ 57) ∨ (97 ≤ c ∧ c ≤ 102) ∨ (65 ≤ c ∧ c ≤ 70)) := by
    unfold hexv; split
    · omega
    · split
      · omega
      · split <;> omega
  rw [e]
  simp
  omega

/-- The first four bytes are hex digits. -/
def four (f : Nat → Int) : Bool := decide (0 ≤ hexv (f 0) ∧ 0 ≤ hexv (f 1) ∧ 0 ≤ hexv (f 2) ∧ 0 ≤ hexv (f 3))
theorem four_good {f : Nat → Int} (h : ∀ j, j < 4 → 0 ≤ hexv (f j)) : four f = true := decide_eq_true ⟨h 0 (by omega), h 1 (by omega), h 2 (by omega), h 3 (by omega)⟩
theorem four_bad {f : Nat → Int} {k : Nat} (hk : k < 4) (h : hexv (f k) < 0) : four f = false := by
  apply decide_eq_false
  rintro ⟨h0, h1, h2, h3⟩
  match k, hk with
  | 0, _ => omega
  | 1, _ => omega
  | 2, _ => omega
  | 3, _ => omega
theorem four_all {f : Nat → Int} (h : four f = true) : ∀ j, j < 4 → 0 ≤ hexv (f j) := by
  obtain ⟨h0, h1, h2, h3⟩ := of_decide_eq_true h
  intro j hj
  match j, hj with
  | 0, _ => exact h0
  | 1, _ => exact h1
  | 2, _ => exact h2
  | 3, _ => exact h3
theorem four_hexF {f : Nat → Int} (h : four f = false) : hexF f = -1 := by
  unfold hexF; rw [if_neg (of_decide_eq_false h)]

theorem startsWith_short (a : Option Addr) (len cap : Nat) (w : World) (h4 : len < 4) :
    Calls Try.prog 15 #[.slice a len cap] w fun e w' => e = .returned (.bool false) ∧ w' = w := by
  go_enter Try.func15, Try.ntmps15
  go_wp2
  go_ret
  exact ⟨rfl, rfl⟩

set_option maxHeartbeats 1000000 in
theorem startsWith_any (b off len cap : Nat) (f : Nat → Int) (w : World) (h4 : 4 ≤ len)
    (hc : ∀ j, j < 4 → w.cell? ⟨b, off + j, none⟩ = some (.int .u8 (f j))) :
    Calls Try.prog 15 #[.slice (some ⟨b, off, none⟩) len cap] w fun e w' => e = .returned (.bool (four f)) ∧ w' = w := by
  go_enter Try.func15, Try.ntmps15
  go_wp2
  go_loop [3] (fun i => ∃ (k : Nat), k ≤ 4 ∧ i = .int .i64 k ∧ ∀ j, j < k → 0 ≤ hexv (f j)) (fun i => 4 - (intOf i).toNat)
  case atStart => exact ⟨0, Nat.zero_le _, rfl, fun j hj => by omega⟩
  case round =>
    obtain ⟨k, hk, rfl, hn⟩ := hrel
    have HN : Hid (∀ j, j < k → 0 ≤ hexv (f j)) := hn
    clear hn
    by_cases hlt : k < 4
    · have hcx := hc k hlt
      obtain ⟨c, hcc⟩ : ∃ c, c = f k := ⟨_, rfl⟩
      rw [← hcc] at hcx
      have HC : Hid (c = f k) := hcc
      have hin := inB_hex c
      clear hcc hc
      cases hd : decide (0 ≤ hexv c)
      · rw [hd] at hin
        have HD : Hid (decide (0 ≤ hexv c) = false) := hd
        clear hd
        go_wp2_with (go_at_call 29; refine (inSet_any _ _ _ (by decide)).mono ?_; rintro e w' ⟨rfl, rfl⟩)
        go_ret
        refine ⟨ret_bool (four_bad hlt ?_).symm, rfl⟩
        have := of_decide_eq_false HD.out
        rw [← HC.out]; omega
      · rw [hd] at hin
        have HD : Hid (decide (0 ≤ hexv c) = true) := hd
        clear hd
        go_wp2_with (go_at_call 29; refine (inSet_any _ _ _ (by decide)).mono ?_; rintro e w' ⟨rfl, rfl⟩)
        go_round
        case rel =>
          refine ⟨k + 1, by omega, by go_num, fun j hj => ?_⟩
          by_cases e : j = k
          · rw [e, ← HC.out]; exact of_decide_eq_true HD.out
          · exact HN.out j (by omega)
        case measure => simp [intOf]; omega
    · obtain rfl : k = 4 := by omega
      go_wp2
      go_ret
      exact ⟨ret_bool (four_good HN.out).symm, rfl⟩

end Go.Proofs.Qxb6000752a
