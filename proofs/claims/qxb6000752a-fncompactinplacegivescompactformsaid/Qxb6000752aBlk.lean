/-
  A block that is known whole: its cells, a store into it; lists. No walk.
-/
import Derived.WalkKit
import Derived.Deep.Draws
namespace Go.Proofs.Qxb6000752a
open Go.RowKit

/-- Block g holds just these numbers, of kind k and element type e, and none of it is frozen. -/
def Blk (k : IntKind) (e : TypeId) (w : World) (g : Nat) (xs : List Int) : Prop := w.heap[g]? = some (.cells (xs.map (Value.int k)).toArray e (0, 0))

theorem Blk.lt {k : IntKind} {e : TypeId} {w : World} {g : Nat} {xs : List Int} (h : Blk k e w g xs) : g < w.heap.size := (Array.getElem?_eq_some_iff.1 h).1
theorem Blk.cell {k : IntKind} {e : TypeId} {w : World} {g : Nat} {xs : List Int} (h : Blk k e w g xs) {j : Nat} (hj : j < xs.length) : w.cell? ⟨g, j, none⟩ = some (.int k (xs.getD j 0)) := by
  rw [cell_of_row w g j _ e (0, 0) h]
  simp [List.getElem?_eq_getElem hj]
theorem Blk.free {k : IntKind} {e : TypeId} {w : World} {g : Nat} {xs : List Int} (h : Blk k e w g xs) (j : Nat) : w.frozen? ⟨g, j, none⟩ = false := frozen_of_row w g j _ e h
theorem Blk.store {k : IntKind} {e : TypeId} {w : World} {g : Nat} {xs : List Int} (h : Blk k e w g xs) (j : Nat) (x : Int) : Blk k e (w.setCell ⟨g, j, none⟩ (.int k x)) g (xs.set j x) := by
  unfold Blk
  rw [heap_setCell_same w g j _ e _ h]
  simp [List.map_set]
theorem Blk.same {k : IntKind} {e : TypeId} {w w' : World} {g : Nat} {xs : List Int} (h : Blk k e w g xs) (hs : w'.heap[g]? = w.heap[g]?) : Blk k e w' g xs := hs.trans h
theorem Blk.below {k : IntKind} {e : TypeId} {w w' : World} {g B : Nat} {xs : List Int} (h : Blk k e w g xs) (hb : Below B w w') (hg : g < B) : Blk k e w' g xs := h.same (hb.block g hg)
theorem Blk.grown {k : IntKind} {e : TypeId} {w w' : World} {g : Nat} {row : Option Nat} {xs : List Int} (h : Blk k e w g xs) (hb : w.grownBy w' row) (hg : some g ≠ row) : Blk k e w' g xs := h.same (hb.block g h.lt hg)
theorem Blk.drewN {k : IntKind} {e : TypeId} {w : World} {g : Nat} {xs : List Int} (h : Blk k e w g xs) (n : Nat) : Blk k e (w.drewN n) g xs := h

theorem blk_of_owns {k : IntKind} {e : TypeId} {w : World} {base g n : Nat} {xs : List Int} (h : w.ownsRow base e 1 (.slice (some ⟨g, 0, none⟩) n n) n (xs.map (Value.int k))) : Blk k e w g xs := by
  rcases h.2 with ⟨h', _⟩ | ⟨g', cap', cur, h', _, hg, _, _, hs, htake⟩
  · simp at h'
  · simp only [Value.slice.injEq, Option.some.injEq, Addr.mk.injEq, and_true, true_and] at h'
    obtain ⟨rfl, rfl⟩ := h'
    unfold Blk
    rw [hg]
    have : cur = (xs.map (Value.int k)).toArray := by
      rw [← htake, List.take_of_length_le (by simp [hs])]
    rw [this]

theorem grownBy_below {w w' : World} {row : Option Nat} {B : Nat} (hg : w.grownBy w' row) (hB : B ≤ w.heap.size) (hr : ∀ k, row = some k → B ≤ k) : Below B w w' := (Below.refl B w).grown hg hB hr
theorem below_grownBy {w w' : World} (row : Option Nat) (h : Below w.heap.size w w') : w.grownBy w' row := ⟨h.os, h.tape, h.output, h.size, fun k hk _ => h.block k hk⟩
theorem grownBy_trans {a b c : World} {row : Option Nat} (h : a.grownBy b row) (k : b.grownBy c row) : a.grownBy c row :=
  ⟨k.os.trans h.os, k.tape.trans h.tape, k.output.trans h.output, Nat.le_trans h.size k.size, fun i hi hn => (k.block i (Nat.lt_of_lt_of_le hi h.size) hn).trans (h.block i hi hn)⟩
theorem grownBy_drewN (w : World) (row : Option Nat) (n : Nat) : w.grownBy (w.drewN n) row := ⟨rfl, rfl, rfl, Nat.le_refl _, fun _ _ _ => rfl⟩
theorem below_drewN (w : World) (B n : Nat) : Below B w (w.drewN n) := ⟨rfl, rfl, rfl, Nat.le_refl _, fun _ _ => rfl⟩
theorem grownBy_setCell (w : World) (g j : Nat) (v : Value) : w.grownBy (w.setCell ⟨g, j, none⟩ v) (some g) :=
  ⟨rfl, rfl, rfl, by simp, fun k _ hk => heap_setCell_other w ⟨g, j, none⟩ k v (fun e => hk (by simp [e]))⟩

/-- A slice '.slice a xs.length c' that can be read: where it is not empty, its cells. -/
structure Reads (k : IntKind) (w : World) (a : Option Addr) (b off : Nat) (xs : List Int) : Prop where
  pos : 0 < xs.length → a = some ⟨b, off, none⟩
  cell : ∀ j, j < xs.length → w.cell? ⟨b, off + j, none⟩ = some (.int k (xs.getD j 0))

theorem Reads.lt {k : IntKind} {w : World} {a : Option Addr} {b off : Nat} {xs : List Int} (h : Reads k w a b off xs) (h0 : 0 < xs.length) : b < w.heap.size :=
  World.block_lt_of_cell? w ⟨b, off + 0, none⟩ (h.cell 0 h0)
theorem Reads.same {k : IntKind} {w w' : World} {a : Option Addr} {b off : Nat} {xs : List Int} (h : Reads k w a b off xs) (hs : 0 < xs.length → w'.heap[b]? = w.heap[b]?) : Reads k w' a b off xs :=
  ⟨h.pos, fun j hj => (World.cell?_of_block (a := ⟨b, off + j, none⟩) (hs (by omega))).trans (h.cell j hj)⟩
theorem Reads.below {k : IntKind} {w w' : World} {a : Option Addr} {b off : Nat} {xs : List Int} (h : Reads k w a b off xs) (hb : Below w.heap.size w w') : Reads k w' a b off xs := h.same fun h0 => hb.block b (h.lt h0)
theorem Reads.grown {k : IntKind} {w w' : World} {row : Option Nat} {a : Option Addr} {b off : Nat} {xs : List Int} (h : Reads k w a b off xs) (hb : w.grownBy w' row) (hn : some b ≠ row) : Reads k w' a b off xs := h.same fun h0 => hb.block b (h.lt h0) hn
theorem reads_nil (k : IntKind) (w : World) (a : Option Addr) (b off : Nat) : Reads k w a b off [] := ⟨fun h => by simp at h, fun j hj => by simp at hj⟩
theorem reads_blk {k : IntKind} {e : TypeId} {w : World} {g : Nat} {xs : List Int} (h : Blk k e w g xs) (m : Nat) : Reads k w (some ⟨g, 0, none⟩) g 0 (xs.take m) := by
  refine ⟨fun _ => rfl, fun j hj => ?_⟩
  have hj' : j < m := by simp at hj; omega
  rw [Nat.zero_add, h.cell (by simp at hj; omega)]
  simp [List.getD, hj']
theorem reads_blk_all {k : IntKind} {e : TypeId} {w : World} {g : Nat} {xs : List Int} (h : Blk k e w g xs) : Reads k w (some ⟨g, 0, none⟩) g 0 xs := by
  have := reads_blk h xs.length
  rwa [List.take_length] at this

/-- The first k of xs, then noughts. -/
def fill (xs : List Int) (n k : Nat) : List Int := xs.take k ++ List.replicate (n - k) 0
theorem fill_zero (xs : List Int) (n : Nat) : fill xs n 0 = List.replicate n 0 := by simp [fill]
theorem fill_end (xs : List Int) : fill xs xs.length xs.length = xs := by simp [fill]
theorem fill_set {xs : List Int} {n k : Nat} (hn : xs.length = n) (hk : k < n) : (fill xs n k).set k (xs.getD k 0) = fill xs n (k + 1) := by
  unfold fill
  have e : n - k = (n - (k + 1)) + 1 := by omega
  have hl : (xs.take k).length = k := by simp; omega
  rw [e, List.replicate_succ, List.set_append_right _ _ (by omega), hl, Nat.sub_self, List.set_cons_zero]
  have e2 : xs.getD k 0 = xs[k] := by simp [List.getElem?_eq_getElem (show k < xs.length by omega)]
  rw [List.take_succ_eq_append_getElem (show k < xs.length by omega), e2, List.append_assoc]
  rfl
theorem made_fill (k : IntKind) (n : Nat) (xs : List Int) : (madeCells #[Value.int k 0] n).toList = (fill xs n 0).map (Value.int k) := by
  rw [toList_madeCells_one, fill_zero]
  simp

end Go.Proofs.Qxb6000752a
