/-
  The walks of bytesEqual (24), wordsEqual (30).
-/
import Derived.Test.Qxb6000752aProg
import Derived.Test.Qxb6000752aBlk
import Derived.WalkSpells
import Derived.WalkLawsBesides
import Derived.Deep.QuietTactic
import Derived.BigQuiet
namespace Go.Proofs.Qxb6000752a
open Go.RowKit

/-- Nothing has happened but draws. -/
def Drawn (w w' : World) : Prop := ∃ n, w' = w.drewN n
theorem drawn_refl (w : World) : Drawn w w := ⟨0, rfl⟩
theorem Drawn.more {w w' : World} (h : Drawn w w') (n : Nat) : Drawn w (w'.drewN n) := by
  obtain ⟨m, rfl⟩ := h
  exact ⟨m + n, by simp⟩
theorem Drawn.cell {w w' : World} (h : Drawn w w') (a : Addr) : w'.cell? a = w.cell? a := by obtain ⟨n, rfl⟩ := h; rfl
theorem Drawn.below {w w' : World} (h : Drawn w w') (B : Nat) : Below B w w' := by obtain ⟨n, rfl⟩ := h; exact below_drewN _ _ _

theorem take_succ_eq {xs ys : List Int} {k : Nat} (h : xs.take k = ys.take k) (hx : k < xs.length) (hy : k < ys.length) (e : xs.getD k 0 = ys.getD k 0) : xs.take (k + 1) = ys.take (k + 1) := by
  have e' : xs[k] = ys[k] := by simpa [List.getElem?_eq_getElem hx, List.getElem?_eq_getElem hy] using e
  rw [List.take_succ_eq_append_getElem hx, List.take_succ_eq_append_getElem hy, h, e']

theorem ret_bool' {a b : Bool} (h : a = b) : Ending.returned (.bool a) = .returned (.bool b) := by rw [h]

set_option maxHeartbeats 1000000 in
theorem bytesEqual_any (a1 a2 : Option Addr) (n1 c1 n2 c2 b1 o1 b2 o2 : Nat) (xs ys : List Int) (w : World) (hx : xs.length = n1) (hy : ys.length = n2) (hr : n1 ≤ 1073741824) (R1 : Reads .u8 w a1 b1 o1 xs) (R2 : Reads .u8 w a2 b2 o2 ys) :
    Calls Try.prog 24 #[.slice a1 n1 c1, .slice a2 n2 c2] w fun e w' => e = .returned (.bool (decide (xs = ys))) ∧ Drawn w w' := by
  have HX : Hid (xs.length = n1) := hx
  have HY : Hid (ys.length = n2) := hy
  clear hx hy
  by_cases hne : n1 = n2
  · subst hne
    go_enter Try.func24, Try.ntmps24
    go_wp2
    go_loopw [5] (fun i wr => ∃ (k : Nat), k ≤ n1 ∧ i = .int .i64 k ∧ Drawn w wr ∧ xs.take k = ys.take k) (fun i _ => n1 - (intOf i).toNat)
    case atStart => exact ⟨0, Nat.zero_le _, rfl, drawn_refl _, rfl⟩
    case round =>
      obtain ⟨k, hk, rfl, hd, ht⟩ := hrel
      have HT : Hid (xs.take k = ys.take k) := ht
      clear ht
      by_cases hlt : k < n1
      · obtain rfl := R1.pos (by rw [HX.out]; omega)
        obtain rfl := R2.pos (by rw [HY.out]; omega)
        have c1' : wr.cell? ⟨b1, o1 + k, none⟩ = some (.int .u8 (xs.getD k 0)) := (hd.cell _).trans (R1.cell k (by rw [HX.out]; exact hlt))
        have c2' : wr.cell? ⟨b2, o2 + k, none⟩ = some (.int .u8 (ys.getD k 0)) := (hd.cell _).trans (R2.cell k (by rw [HY.out]; exact hlt))
        obtain ⟨x, hx⟩ : ∃ x, x = xs.getD k 0 := ⟨_, rfl⟩
        obtain ⟨y, hy⟩ : ∃ y, y = ys.getD k 0 := ⟨_, rfl⟩
        rw [← hx] at c1'
        rw [← hy] at c2'
        have HXK : Hid (x = xs.getD k 0) := hx
        have HYK : Hid (y = ys.getD k 0) := hy
        clear hx hy
        have hlti : (k : Int) < (n1 : Int) := by omega
        have hk0 : (0 : Int) ≤ (k : Int) := by omega
        by_cases hxy : x = y
        · have hbt : (x != y) = false := by simp [hxy]
          have HXY : Hid (x = y) := hxy
          clear hxy
          go_wp2
          go_quiet (fail)
          go_wp2
          go_roundw
          case rel => exact ⟨k + 1, by omega, by go_num, hd.more _, take_succ_eq HT.out (by rw [HX.out]; exact hlt) (by rw [HY.out]; exact hlt) (by rw [← HXK.out, ← HYK.out, HXY.out])⟩
          case measure => simp [intOf]; omega
        · have hbt : (x != y) = true := by simp [hxy]
          have HXY : Hid (¬ x = y) := hxy
          clear hxy
          go_wp2
          go_quiet (fail)
          go_wp2
          go_ret
          refine ⟨ret_bool' ?_, hd.more _⟩
          symm
          apply decide_eq_false
          intro e
          apply HXY.out
          rw [HXK.out, HYK.out, e]
      · obtain rfl : k = n1 := by omega
        go_wp2
        go_ret
        refine ⟨ret_bool' ?_, hd⟩
        symm
        apply decide_eq_true
        have := HT.out
        rwa [List.take_of_length_le (by rw [HX.out]; exact Nat.le_refl _), List.take_of_length_le (by rw [HY.out]; exact Nat.le_refl _)] at this
  · go_enter Try.func24, Try.ntmps24
    have hne' : ((n1 : Int) != (n2 : Int)) = true := by simp; omega
    have HNE : Hid (¬ n1 = n2) := hne
    clear hne
    go_wp2
    go_ret
    refine ⟨ret_bool' ?_, drawn_refl _⟩
    symm
    apply decide_eq_false
    intro e
    exact HNE.out (by rw [← HX.out, ← HY.out, e])

set_option maxHeartbeats 1000000 in
theorem wordsEqual_any (a1 a2 : Option Addr) (n1 c1 n2 c2 b1 o1 b2 o2 : Nat) (xs ys : List Int) (w : World) (hx : xs.length = n1) (hy : ys.length = n2) (hr : n1 ≤ 1073741824) (R1 : Reads .u64 w a1 b1 o1 xs) (R2 : Reads .u64 w a2 b2 o2 ys) :
    Calls Try.prog 30 #[.slice a1 n1 c1, .slice a2 n2 c2] w fun e w' => e = .returned (.bool (decide (xs = ys))) ∧ Drawn w w' := by
  have HX : Hid (xs.length = n1) := hx
  have HY : Hid (ys.length = n2) := hy
  clear hx hy
  by_cases hne : n1 = n2
  · subst hne
    go_enter Try.func30, Try.ntmps30
    go_wp2
    go_loopw [5] (fun i wr => ∃ (k : Nat), k ≤ n1 ∧ i = .int .i64 k ∧ Drawn w wr ∧ xs.take k = ys.take k) (fun i _ => n1 - (intOf i).toNat)
    case atStart => exact ⟨0, Nat.zero_le _, rfl, drawn_refl _, rfl⟩
    case round =>
      obtain ⟨k, hk, rfl, hd, ht⟩ := hrel
      have HT : Hid (xs.take k = ys.take k) := ht
      clear ht
      by_cases hlt : k < n1
      · obtain rfl := R1.pos (by rw [HX.out]; omega)
        obtain rfl := R2.pos (by rw [HY.out]; omega)
        have c1' : wr.cell? ⟨b1, o1 + k, none⟩ = some (.int .u64 (xs.getD k 0)) := (hd.cell _).trans (R1.cell k (by rw [HX.out]; exact hlt))
        have c2' : wr.cell? ⟨b2, o2 + k, none⟩ = some (.int .u64 (ys.getD k 0)) := (hd.cell _).trans (R2.cell k (by rw [HY.out]; exact hlt))
        obtain ⟨x, hx⟩ : ∃ x, x = xs.getD k 0 := ⟨_, rfl⟩
        obtain ⟨y, hy⟩ : ∃ y, y = ys.getD k 0 := ⟨_, rfl⟩
        rw [← hx] at c1'
        rw [← hy] at c2'
        have HXK : Hid (x = xs.getD k 0) := hx
        have HYK : Hid (y = ys.getD k 0) := hy
        clear hx hy
        have hlti : (k : Int) < (n1 : Int) := by omega
        have hk0 : (0 : Int) ≤ (k : Int) := by omega
        by_cases hxy : x = y
        · have hbt : (x != y) = false := by simp [hxy]
          have HXY : Hid (x = y) := hxy
          clear hxy
          go_wp2
          go_quiet (fail)
          go_wp2
          go_roundw
          case rel => exact ⟨k + 1, by omega, by go_num, hd.more _, take_succ_eq HT.out (by rw [HX.out]; exact hlt) (by rw [HY.out]; exact hlt) (by rw [← HXK.out, ← HYK.out, HXY.out])⟩
          case measure => simp [intOf]; omega
        · have hbt : (x != y) = true := by simp [hxy]
          have HXY : Hid (¬ x = y) := hxy
          clear hxy
          go_wp2
          go_quiet (fail)
          go_wp2
          go_ret
          refine ⟨ret_bool' ?_, hd.more _⟩
          symm
          apply decide_eq_false
          intro e
          apply HXY.out
          rw [HXK.out, HYK.out, e]
      · obtain rfl : k = n1 := by omega
        go_wp2
        go_ret
        refine ⟨ret_bool' ?_, hd⟩
        symm
        apply decide_eq_true
        have := HT.out
        rwa [List.take_of_length_le (by rw [HX.out]; exact Nat.le_refl _), List.take_of_length_le (by rw [HY.out]; exact Nat.le_refl _)] at this
  · go_enter Try.func30, Try.ntmps30
    have hne' : ((n1 : Int) != (n2 : Int)) = true := by simp; omega
    have HNE : Hid (¬ n1 = n2) := hne
    clear hne
    go_wp2
    go_ret
    refine ⟨ret_bool' ?_, drawn_refl _⟩
    symm
    apply decide_eq_false
    intro e
    exact HNE.out (by rw [← HX.out, ← HY.out, e])

end Go.Proofs.Qxb6000752a
