/-
  The walks of cloneBytes (14), cloneWords (27), bytesEqual (24), wordsEqual (30).
-/
import Derived.Test.Qxb6000752aProg
import Derived.Test.Qxb6000752aBlk
import Derived.WalkSpells
import Derived.WalkLawsBesides
import Derived.Lib.SliceRun
import Derived.Deep.QuietTactic
import Derived.BigQuiet
namespace Go.Proofs.Qxb6000752a
open Go.RowKit
theorem Try.info5' : (Try.prog.info? 5).map (fun i => (i.zero, i.size, i.bytes)) = some (some (.int .u8 0), 1, 1) := by kernel_rfl
theorem Try.info37 : (Try.prog.info? 37).map (fun i => (i.zero, i.size, i.bytes)) = some (some (.int .u64 0), 1, 8) := by kernel_rfl

theorem cloneBytes_nil (w : World) : Calls Try.prog 14 #[.slice none 0 0] w fun e w' => e = .returned (.slice none 0 0) ∧ w' = w := by
  have q23 : ∀ (w : World) (a : Option Addr) (n c n' c' : Nat), (binOp .eql 23 (.slice a n c) (.slice none n' c')).run Try.prog w = .ok (.bool a.isNone) w := fun w a n c n' c' => Lib.run_eql_slice_nil w _ _ a n c n' c' Try.underlying23
  go_enter Try.func14, Try.ntmps14
  go_wp2
  go_ret
  exact ⟨rfl, rfl⟩
theorem cloneWords_nil (w : World) : Calls Try.prog 27 #[.slice none 0 0] w fun e w' => e = .returned (.slice none 0 0) ∧ w' = w := by
  have q38 : ∀ (w : World) (a : Option Addr) (n c n' c' : Nat), (binOp .eql 38 (.slice a n c) (.slice none n' c')).run Try.prog w = .ok (.bool a.isNone) w := fun w a n c n' c' => Lib.run_eql_slice_nil w _ _ a n c n' c' Try.underlying38
  go_enter Try.func27, Try.ntmps27
  go_wp2
  go_ret
  exact ⟨rfl, rfl⟩

set_option maxHeartbeats 1000000 in
theorem cloneBytes_any (ad : Addr) (len cap b off : Nat) (xs : List Int) (w : World) (hx : xs.length = len) (hr : len ≤ 1073741824) (hrd : Reads .u8 w (some ad) b off xs) :
    Calls Try.prog 14 #[.slice (some ad) len cap] w fun e w' => e = .returned (.slice (some ⟨w.heap.size, 0, none⟩) len len) ∧ Blk .u8 5 w' w.heap.size xs ∧ Below w.heap.size w w' := by
  have q23 : ∀ (w : World) (a : Option Addr) (n c n' c' : Nat), (binOp .eql 23 (.slice a n c) (.slice none n' c')).run Try.prog w = .ok (.bool a.isNone) w := fun w a n c n' c' => Lib.run_eql_slice_nil w _ _ a n c n' c' Try.underlying23
  obtain ⟨i0, hi, hz0, hz1, hz2⟩ := info_parts Try.info5'
  have HX : Hid (xs.length = len) := hx
  clear hx
  go_enter Try.func14, Try.ntmps14
  go_wp2_with (at_make; refine wpList_make_full _ rfl _ _ 23 rfl w.heap.size 5 i0 (.int .u8 0) 1 Try.underlying23 hi hz0 hz1 _ _ _ _ len rfl rfl rfl rfl ?b2 ?b3 (Nat.le_refl _) ?_)
  case b2 => rw [hz2]; omega
  case b3 => unfold maxLen; omega
  intro w0 hown0 hgrow0
  rw [made_fill .u8 len xs] at hown0
  have hblk0 : Blk .u8 5 w0 w.heap.size (fill xs len 0) := blk_of_owns hown0
  clear hown0
  go_wp2
  go_loopw [4] (fun i wr => ∃ (k : Nat), k ≤ len ∧ i = .int .i64 k ∧ Blk .u8 5 wr w.heap.size (fill xs len k) ∧ Below w.heap.size w wr)
    (fun i _ => len - (intOf i).toNat)
  case atStart => exact ⟨0, Nat.zero_le _, rfl, hblk0, (Below.refl _ _).grown hgrow0 (Nat.le_refl _) (fun k h => by cases h)⟩
  case round =>
    obtain ⟨k, hk, rfl, hblk, hnx⟩ := hrel
    have HB : Hid (Blk .u8 5 wr w.heap.size (fill xs len k)) := hblk
    clear hblk hblk0
    by_cases hlt : k < len
    · obtain rfl : ad = ⟨b, off, none⟩ := Option.some.inj (hrd.pos (by rw [HX.out]; omega))
      have hcx : wr.cell? ⟨b, off + k, none⟩ = some (.int .u8 (xs.getD k 0)) := (hnx.cell (by exact hrd.lt (by rw [HX.out]; omega))).trans (hrd.cell k (by rw [HX.out]; exact hlt))
      obtain ⟨z, hz⟩ : ∃ z, z = xs.getD k 0 := ⟨_, rfl⟩
      rw [← hz] at hcx
      have HZ : Hid (z = xs.getD k 0) := hz
      have hlen : (fill xs len k).length = len := by simp [fill, HX.out]; omega
      have hold := HB.out.cell (show k < (fill xs len k).length by omega)
      have hfr := HB.out.free k
      obtain ⟨y, hy⟩ : ∃ y, y = (fill xs len k).getD k 0 := ⟨_, rfl⟩
      rw [← hy] at hold
      clear hz hy hlen
      go_wp2
      go_roundw
      case rel =>
        refine ⟨k + 1, by omega, by go_num, ?_, hnx.setCell (Nat.le_refl _) _⟩
        have := HB.out.store k z
        rw [HZ.out, fill_set HX.out hlt, ← HZ.out] at this
        exact this
      case measure => simp [intOf]; omega
    · obtain rfl : k = len := by omega
      go_wp2
      go_ret
      refine ⟨rfl, ?_, hnx⟩
      have := HB.out
      rw [← HX.out, fill_end] at this
      exact this

set_option maxHeartbeats 1000000 in
theorem cloneWords_any (ad : Addr) (len cap b off : Nat) (xs : List Int) (w : World) (hx : xs.length = len) (hr : len ≤ 1073741824) (hrd : Reads .u64 w (some ad) b off xs) :
    Calls Try.prog 27 #[.slice (some ad) len cap] w fun e w' => e = .returned (.slice (some ⟨w.heap.size, 0, none⟩) len len) ∧ Blk .u64 37 w' w.heap.size xs ∧ Below w.heap.size w w' := by
  have q38 : ∀ (w : World) (a : Option Addr) (n c n' c' : Nat), (binOp .eql 38 (.slice a n c) (.slice none n' c')).run Try.prog w = .ok (.bool a.isNone) w := fun w a n c n' c' => Lib.run_eql_slice_nil w _ _ a n c n' c' Try.underlying38
  obtain ⟨i0, hi, hz0, hz1, hz2⟩ := info_parts Try.info37
  have HX : Hid (xs.length = len) := hx
  clear hx
  go_enter Try.func27, Try.ntmps27
  go_wp2_with (at_make; refine wpList_make_full _ rfl _ _ 38 rfl w.heap.size 37 i0 (.int .u64 0) 1 Try.underlying38 hi hz0 hz1 _ _ _ _ len rfl rfl rfl rfl ?b2 ?b3 (Nat.le_refl _) ?_)
  case b2 => rw [hz2]; omega
  case b3 => unfold maxLen; omega
  intro w0 hown0 hgrow0
  rw [made_fill .u64 len xs] at hown0
  have hblk0 : Blk .u64 37 w0 w.heap.size (fill xs len 0) := blk_of_owns hown0
  clear hown0
  go_wp2
  go_loopw [4] (fun i wr => ∃ (k : Nat), k ≤ len ∧ i = .int .i64 k ∧ Blk .u64 37 wr w.heap.size (fill xs len k) ∧ Below w.heap.size w wr)
    (fun i _ => len - (intOf i).toNat)
  case atStart => exact ⟨0, Nat.zero_le _, rfl, hblk0, (Below.refl _ _).grown hgrow0 (Nat.le_refl _) (fun k h => by cases h)⟩
  case round =>
    obtain ⟨k, hk, rfl, hblk, hnx⟩ := hrel
    have HB : Hid (Blk .u64 37 wr w.heap.size (fill xs len k)) := hblk
    clear hblk hblk0
    by_cases hlt : k < len
    · obtain rfl : ad = ⟨b, off, none⟩ := Option.some.inj (hrd.pos (by rw [HX.out]; omega))
      have hcx : wr.cell? ⟨b, off + k, none⟩ = some (.int .u64 (xs.getD k 0)) := (hnx.cell (by exact hrd.lt (by rw [HX.out]; omega))).trans (hrd.cell k (by rw [HX.out]; exact hlt))
      obtain ⟨z, hz⟩ : ∃ z, z = xs.getD k 0 := ⟨_, rfl⟩
      rw [← hz] at hcx
      have HZ : Hid (z = xs.getD k 0) := hz
      have hlen : (fill xs len k).length = len := by simp [fill, HX.out]; omega
      have hold := HB.out.cell (show k < (fill xs len k).length by omega)
      have hfr := HB.out.free k
      obtain ⟨y, hy⟩ : ∃ y, y = (fill xs len k).getD k 0 := ⟨_, rfl⟩
      rw [← hy] at hold
      clear hz hy hlen
      go_wp2
      go_roundw
      case rel =>
        refine ⟨k + 1, by omega, by go_num, ?_, hnx.setCell (Nat.le_refl _) _⟩
        have := HB.out.store k z
        rw [HZ.out, fill_set HX.out hlt, ← HZ.out] at this
        exact this
      case measure => simp [intOf]; omega
    · obtain rfl : k = len := by omega
      go_wp2
      go_ret
      refine ⟨rfl, ?_, hnx⟩
      have := HB.out
      rw [← HX.out, fill_end] at this
      exact this

end Go.Proofs.Qxb6000752a
