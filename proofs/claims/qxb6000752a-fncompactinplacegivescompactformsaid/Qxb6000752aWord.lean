/-
  The walks of word (21) and str (22).
-/
import Derived.Test.Qxb6000752aBoth
import Derived.Test.Qxb6000752aTok
import Derived.Test.Qxb6000752aBlk
namespace Go.Proofs.Qxb6000752a
open Go.RowKit

/-- A constant's bytes. -/
def bts (s : ByteArray) : List Int := s.data.toList.map fun x => (x.toNat : Int)
theorem bts_len (s : ByteArray) : (bts s).length = s.size := by simp [bts]
theorem bts_snoc (s : ByteArray) {k : Nat} (h : k < s.size) : (bts s).take (k + 1) = (bts s).take k ++ [(s[k].toNat : Int)] := by
  rw [List.take_succ_eq_append_getElem (by rw [bts_len]; exact h)]
  congr 1
  simp [bts]
  rfl

/-- The builder, and that nothing below base has turned. -/
def JW (base : Nat) (w0 : World) (jb : Nat) (wv : Value) (C S : List Int) (n : Nat) (w : World) : Prop := JB base w jb wv C S n ∧ Below base w0 w

set_option maxHeartbeats 1000000 in
theorem word_j (base jb : Nat) (wv : Value) (C S : List Int) (n : Nat) (s : ByteArray) (w : World) (hj : JB base w jb wv C S n) (hC : C.length ≤ 1099511627000) (hS : S.length ≤ 1099511627000) (hb : base ≤ jb) (hs : s.size ≤ 100) :
    Calls Try.prog 21 #[.pointer (some ⟨jb, 0, none⟩), .string s] w fun e w' => e = .returned (.tuple #[]) ∧ JW base w jb wv (C ++ bts s) (S ++ bts s) n w' := by
  have HJ : Hid (JB base w jb wv C S n) := hj
  clear hj
  go_enter Try.func21, Try.ntmps21
  go_wp2
  go_loopw [4] (fun i wr => ∃ (k : Nat), k ≤ s.size ∧ i = .int .i64 k ∧ JW base w jb wv (C ++ (bts s).take k) (S ++ (bts s).take k) n wr) (fun i _ => s.size - (intOf i).toNat)
  case atStart => exact ⟨0, Nat.zero_le _, rfl, by simpa using HJ.out, Below.refl _ _⟩
  case round =>
    obtain ⟨k, hk, rfl, hJ, hbel⟩ := hrel
    by_cases hlt : k < s.size
    · have HJW : Hid (JB base wr jb wv (C ++ (bts s).take k) (S ++ (bts s).take k) n) := hJ
      have hl1 : (C ++ (bts s).take k).length ≤ 1099511627776 := by simp [bts_len]; omega
      have hl2 : (S ++ (bts s).take k).length ≤ 1099511627776 := by simp [bts_len]; omega
      have HL1 : Hid ((C ++ (bts s).take k).length ≤ 1099511627776) := hl1
      have HL2 : Hid ((S ++ (bts s).take k).length ≤ 1099511627776) := hl2
      clear hJ hl1 hl2
      go_wp2_with fail
      refine (both_j base jb wv _ _ n _ _ HJW.out HL1.out HL2.out hb).mono ?_
      rintro e w1 ⟨rfl, hJ1, hbel1⟩
      rw [List.append_assoc, List.append_assoc, ← bts_snoc s hlt] at hJ1
      have HJ1 : Hid (JB base w1 jb wv (C ++ (bts s).take (k + 1)) (S ++ (bts s).take (k + 1)) n) := hJ1
      clear hJ1
      go_wp2
      go_roundw
      case rel => exact ⟨k + 1, by omega, by go_num, HJ1.out, hbel.trans hbel1⟩
      case measure => simp [intOf]; omega
    · obtain rfl : k = s.size := by omega
      have e : (bts s).take s.size = bts s := List.take_of_length_le (by rw [bts_len]; exact Nat.le_refl _)
      rw [e] at hJ
      go_wp2
      go_end0
      exact ⟨rfl, hJ, hbel⟩

theorem take_snocD {xs : List Int} {i : Nat} (h : i < xs.length) : xs.take (i + 1) = xs.take i ++ [xs.getD i 0] := take_snoc' h
theorem u8_div16 (c : Int) : (c / 16).toNat < 16 ↔ c / 16 < 16 := by omega

end Go.Proofs.Qxb6000752a
