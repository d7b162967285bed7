/-
  The walk of FnHexRuneReadsBackFourDigits (3).
-/
import Derived.Test.Qxb6000752aHex
namespace Go.Proofs.Qxb6000752a
open Go.RowKit
theorem Try.info5 : (Try.prog.info? 5).map (fun i => (i.zero, i.size, i.bytes)) = some (some (.int .u8 0), 1, 1) := by kernel_rfl

theorem one_cell (w : World) (v : Value) (t : TypeId) : ∀ j u, [v][j]? = some u → (w.alloc (.cells #[v] t)).cell? ((⟨w.heap.size, 0, none⟩ : Addr).add j) = some u := by
  intro j u hj
  match j, hj with
  | 0, hj => simp at hj; subst hj; simp [Addr.add]

theorem readsBack_big (a0 a1 : Int) (a : Option Addr) (len cap : Nat) (w : World) (hle : 1048576 < len) :
    Calls Try.prog 3 #[.int .u16 a0, .int .u8 a1, .slice a len cap] w fun e w' => e = .returned (.bool true) ∧ w' = w := by
  go_enter Try.func3, Try.ntmps3
  go_wp2
  go_ret
  exact ⟨rfl, rfl⟩

theorem getD_snoc (D : List Int) (d : Int) (j : Nat) : (D ++ [d]).getD j 0 = if j < D.length then D.getD j 0 else if j = D.length then d else 0 := by
  by_cases h : j < D.length
  · rw [if_pos h]; simp [List.getD, List.getElem?_append_left h]
  · rw [if_neg h]
    by_cases e : j = D.length
    · rw [if_pos e, e]; simp [List.getD]
    · rw [if_neg e]; simp [List.getD]; rw [List.getElem?_eq_none (by simp; omega)]; rfl

/-- The digits that are written so far. -/
def Digs (r : Int) (k : Nat) (D : List Int) : Prop := D.length = k ∧ ∀ j, j < k → hexv (D.getD j 0) = nib r j ∧ 0 ≤ D.getD j 0 ∧ D.getD j 0 ≤ 255
theorem digs_nil (r : Int) : Digs r 0 [] := ⟨rfl, fun j hj => by omega⟩
theorem digs_snoc {r : Int} {k : Nat} {D : List Int} {d : Int} (h : Digs r k D) (hd : hexv d = nib r k) (h0 : 0 ≤ d) (h1 : d ≤ 255) : Digs r (k + 1) (D ++ [d]) := by
  refine ⟨by simp [h.1], fun j hj => ?_⟩
  rw [getD_snoc, h.1]
  by_cases e : j < k
  · rw [if_pos e]; exact h.2 j e
  · obtain rfl : j = k := by omega
    rw [if_neg e, if_pos rfl]; exact ⟨hd, h0, h1⟩

/-- The row begins with D. -/
def OwnPre (B : Nat) (wr : World) (D : List Int) (n cap : Nat) : Prop := ∃ ys : List Int, wr.ownsRow B 5 1 (.slice (some ⟨B, 0, none⟩) n cap) n ((D ++ ys).map (Value.int .u8))

set_option maxHeartbeats 1600000 in
theorem readsBack (a0 a1 : Int) (a : Option Addr) (b off len cap : Nat) (f : Nat → Int) (w : World) (h00 : 0 ≤ a0) (h01 : a0 < 65536) (hle : len ≤ 1048576)
    (ha : 0 < len → a = some ⟨b, off, none⟩) (hbw : 0 < len → b < w.heap.size)
    (hc : ∀ j, j < len → w.cell? ⟨b, off + j, none⟩ = some (.int .u8 (f j))) :
    Calls Try.prog 3 #[.int .u16 a0, .int .u8 a1, .slice a len cap] w fun e w' => e = .returned (.bool true) ∧ Below w.heap.size w w' := by
  obtain ⟨i0, hi, hz0, hz1, hz2⟩ := info_parts Try.info5
  go_enter Try.func3, Try.ntmps3
  go_wp2_with (first | (at_make; refine wpList_make_own _ rfl _ _ 23 rfl w.heap.size 5 i0 (.int .u8 0) 1 Try.underlying23 hi hz0 hz1 _ _ _ (4 + len) rfl rfl (by omega) ?b2 ?b3 (Nat.le_refl _) ?_) | go_in)
  case b2 => rw [hz2]; omega
  case b3 => unfold maxLen; omega
  intro w0 hown0 hgrow0
  go_wp2
  go_loopw [7, 8] (fun p i wr => ∃ (k : Nat) (D : List Int), k ≤ 4 ∧ i = .int .i64 k ∧ p = .slice (some ⟨w.heap.size, 0, none⟩) k (4 + len) ∧
      wr.ownsRow w.heap.size 5 1 (.slice (some ⟨w.heap.size, 0, none⟩) k (4 + len)) k (D.map (Value.int .u8)) ∧ Below w.heap.size w wr ∧ Digs a0 k D)
    (fun _ i _ => 4 - (intOf i).toNat)
  case atStart => exact ⟨0, [], Nat.zero_le _, rfl, rfl, hown0, (Below.refl _ _).grown hgrow0 (Nat.le_refl _) (fun k h => by cases h), digs_nil _⟩
  case round =>
    obtain ⟨k, D, hk, rfl, rfl, hown, hnx, hD⟩ := hrel
    by_cases hlt : k < 4
    · have hnb := nib_bd a0 k
      obtain ⟨n, hn⟩ : ∃ n : Nat, nib a0 k = (n : Int) := ⟨(nib a0 k).toNat, by omega⟩
      have hN : bits .and .u16 (a0 / 2 ^ (12 - 4 * k)) 15 = (n : Int) := by rw [u16_nib a0 k h00 h01, hn]
      have hn16 : n < 16 := by omega
      have hL := lowd_at n hn16
      obtain ⟨L, hLe⟩ : ∃ L, L = lowd n := ⟨_, rfl⟩
      rw [← hLe] at hL
      have HD : Hid (Digs a0 k D) := hD
      have HN : Hid (nib a0 k = (n : Int)) := hn
      have HL : Hid (L = lowd n) := hLe
      clear hD hn hLe hnb
      by_cases h10 : n < 10
      · have hLv : L = 48 + n := by rw [HL.out, lowd_small h10]
        have hLb : L ≤ 255 := by omega
        have HLv : Hid (L = 48 + n) := hLv
        clear hLv
        go_wp2_with (at_builtin; refine wpList_append_fits _ rfl (.tmp 49) (.tmp 51) 23 rfl w.heap.size 5 i0 1 Try.underlying23 hi hz1 w.heap.size k (4 + len) _ rfl (hown.alloc _) ⟨wr.heap.size, 0, none⟩ 1 1 [.int .u8 (L : Int)] rfl rfl (one_cell _ _ _) (by intro u hu; simp at hu; subst hu; rfl) (by omega) ?_; intro w1 hown1 hgrow1)
        go_roundw
        case rel =>
          refine ⟨k + 1, D ++ [(L : Int)], by omega, by go_num, rfl, by simpa using hown1, (hnx.alloc hnx.size _).grown hgrow1 (by simp; have := hnx.size; omega) (fun k hk => by cases hk; exact Nat.le_refl _), digs_snoc HD.out ?_ (by omega) (by omega)⟩
          have := HLv.out
          rw [hexv_dig (by omega) (by omega), HN.out]; omega
        case measure => simp [intOf]; omega
      · have hLv : L = 87 + n := by rw [HL.out, lowd_big (by omega)]
        have hLb : L ≤ 102 := by omega
        have hLb2 : 97 ≤ L := by omega
        have HLv : Hid (L = 87 + n) := hLv
        clear hLv
        cases hbit : (bits .and .u8 a1 (2 ^ k % 256) != 0)
        · go_wp2_with (at_builtin; refine wpList_append_fits _ rfl (.tmp 49) (.tmp 51) 23 rfl w.heap.size 5 i0 1 Try.underlying23 hi hz1 w.heap.size k (4 + len) _ rfl (hown.alloc _) ⟨wr.heap.size, 0, none⟩ 1 1 [.int .u8 (L : Int)] rfl rfl (one_cell _ _ _) (by intro u hu; simp at hu; subst hu; rfl) (by omega) ?_; intro w1 hown1 hgrow1)
          go_roundw
          case rel =>
            refine ⟨k + 1, D ++ [(L : Int)], by omega, by go_num, rfl, by simpa using hown1, (hnx.alloc hnx.size _).grown hgrow1 (by simp; have := hnx.size; omega) (fun k hk => by cases hk; exact Nat.le_refl _), digs_snoc HD.out ?_ (by omega) (by omega)⟩
            have := HLv.out
            rw [hexv_low (by omega) (by omega), HN.out]; omega
          case measure => simp [intOf]; omega
        · go_wp2_with (at_builtin; refine wpList_append_fits _ rfl (.tmp 49) (.tmp 51) 23 rfl w.heap.size 5 i0 1 Try.underlying23 hi hz1 w.heap.size k (4 + len) _ rfl (hown.alloc _) ⟨wr.heap.size, 0, none⟩ 1 1 [.int .u8 ((L : Int) - 32)] rfl rfl (one_cell _ _ _) (by intro u hu; simp at hu; subst hu; rfl) (by omega) ?_; intro w1 hown1 hgrow1)
          go_roundw
          case rel =>
            refine ⟨k + 1, D ++ [((L : Int) - 32)], by omega, by go_num, rfl, by simpa using hown1, (hnx.alloc hnx.size _).grown hgrow1 (by simp; have := hnx.size; omega) (fun k hk => by cases hk; exact Nat.le_refl _), digs_snoc HD.out ?_ (by omega) (by omega)⟩
            have := HLv.out
            rw [hexv_up (by omega) (by omega), HN.out]; omega
          case measure => simp [intOf]; omega
    · obtain rfl : k = 4 := by omega
      have HD : Hid (Digs a0 4 D) := hD
      clear hD
      obtain ⟨wo, rfl⟩ : ∃ wo : World, wo = wr := ⟨_, rfl⟩
      go_wp2
      go_loopw [7, 11] (fun p i wr => ∃ (k : Nat), k ≤ len ∧ i = .int .i64 k ∧ p = .slice (some ⟨w.heap.size, 0, none⟩) (4 + k) (4 + len) ∧
          OwnPre w.heap.size wr D (4 + k) (4 + len) ∧ Below w.heap.size w wr)
        (fun _ i _ => len - (intOf i).toNat)
      case atStart => exact ⟨0, Nat.zero_le _, rfl, rfl, ⟨[], by simpa using hown⟩, hnx⟩
      case round =>
        obtain ⟨k, hk, rfl, rfl, ⟨ys, hown2⟩, hnx2⟩ := hrel
        by_cases hlt2 : k < len
        · obtain rfl := ha (by omega)
          have hcx : wr.cell? ⟨b, off + k, none⟩ = some (.int .u8 (f k)) := (hnx2.cell (by exact hbw (by omega))).trans (hc k hlt2)
          obtain ⟨z, hz⟩ : ∃ z, z = f k := ⟨_, rfl⟩
          rw [← hz] at hcx
          clear hz hc hown hnx
          go_wp2_with (at_builtin; refine wpList_append_fits _ rfl (.tmp 59) (.tmp 64) 23 rfl w.heap.size 5 i0 1 Try.underlying23 hi hz1 w.heap.size (4 + k) (4 + len) _ rfl (hown2.alloc _) ⟨wr.heap.size, 0, none⟩ 1 1 [.int .u8 z] rfl rfl (one_cell _ _ _) (by intro u hu; simp at hu; subst hu; rfl) (by omega) ?_; intro w1 hown1 hgrow1)
          go_roundw
          case rel =>
            exact ⟨k + 1, by omega, by go_num, rfl, ⟨ys ++ [z], by simpa [Nat.add_assoc] using hown1⟩, (hnx2.alloc hnx2.size _).grown hgrow1 (by simp; have := hnx2.size; omega) (fun k hk => by cases hk; exact Nat.le_refl _)⟩
          case measure => simp [intOf]; omega
        · obtain rfl : k = len := by omega
          have hcells : ∀ j, j < 4 → wr.cell? ⟨w.heap.size, 0 + j, none⟩ = some (.int .u8 (D.getD j 0)) := by
            intro j hj
            rw [Nat.zero_add, hown2.cellAt j (by omega)]
            have hl := HD.out.1
            rw [List.map_append, List.getElem?_append_left (by simp; omega)]
            simp [List.getElem?_eq_getElem (show j < D.length by omega)]
          have hE : hexF (fun j => D.getD j 0) = a0 := hexF_nibs h00 h01 (fun j hj => (HD.out.2 j hj).1)
          have hbd : ∀ j, j < 4 → 0 ≤ D.getD j 0 ∧ D.getD j 0 ≤ 255 := fun j hj => (HD.out.2 j hj).2
          obtain ⟨F, hF⟩ : ∃ F : Nat → Int, F = fun j => D.getD j 0 := ⟨_, rfl⟩
          have hcells' : ∀ j, j < 4 → wr.cell? ⟨w.heap.size, 0 + j, none⟩ = some (.int .u8 (F j)) := by rw [hF]; exact hcells
          have hbd' : ∀ j, j < 4 → 0 ≤ F j ∧ F j ≤ 255 := by rw [hF]; exact hbd
          have hE' : Hid (hexF F = a0) := by rw [hF]; exact hE
          have H1 : Hid (∀ j, j < 4 → wr.cell? ⟨w.heap.size, 0 + j, none⟩ = some (.int .u8 (F j))) := hcells'
          have H2 : Hid (∀ j, j < 4 → 0 ≤ F j ∧ F j ≤ 255) := hbd'
          clear hcells hbd hF hE hcells' hbd' hc ha hbw hown
          go_wp2_with (go_at_call 12; refine (zzHex_any w.heap.size 0 (4 + k) (4 + k) F _ (by omega) (by omega) (by omega) H1.out H2.out).mono ?_; rintro e w' ⟨rfl, rfl⟩)
          go_ret
          refine ⟨ret_bool ?_, hnx2⟩
          rw [hE'.out]; simp

end Go.Proofs.Qxb6000752a
