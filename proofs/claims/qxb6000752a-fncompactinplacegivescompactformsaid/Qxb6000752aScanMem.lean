/-
  A scanner in memory: its block known whole, the words of its kinds owned; frames. No walk.
-/
import Derived.WalkKit
import Derived.Deep.Draws
import Derived.Deep.AppendLies
namespace Go.Proofs.Qxb6000752a
open Go.RowKit

/-- w' is w but for the blocks that S names, and new ones. -/
structure Rest (S : Nat → Prop) (w w' : World) : Prop where
  os : w'.os = w.os
  tape : w'.tape = w.tape
  output : w'.output = w.output
  size : w.heap.size ≤ w'.heap.size
  block : ∀ k, k < w.heap.size → ¬ S k → w'.heap[k]? = w.heap[k]?

theorem rest_refl (S : Nat → Prop) (w : World) : Rest S w w := ⟨rfl, rfl, rfl, Nat.le_refl _, fun _ _ _ => rfl⟩
theorem Rest.trans {S : Nat → Prop} {a b c : World} (h : Rest S a b) (k : Rest S b c) : Rest S a c :=
  ⟨k.os.trans h.os, k.tape.trans h.tape, k.output.trans h.output, Nat.le_trans h.size k.size, fun i hi hn => (k.block i (Nat.lt_of_lt_of_le hi h.size) hn).trans (h.block i hi hn)⟩
theorem Rest.mono {S T : Nat → Prop} {a b : World} (h : Rest S a b) (hs : ∀ k, k < a.heap.size → S k → T k) : Rest T a b :=
  ⟨h.os, h.tape, h.output, h.size, fun i hi hn => h.block i hi (fun e => hn (hs i hi e))⟩
theorem Rest.then {S T : Nat → Prop} {a b c : World} (h : Rest S a b) (k : Rest T b c) (hs : ∀ i, i < a.heap.size → T i → S i) : Rest S a c :=
  ⟨k.os.trans h.os, k.tape.trans h.tape, k.output.trans h.output, Nat.le_trans h.size k.size, fun i hi hn => (k.block i (Nat.lt_of_lt_of_le hi h.size) (fun e => hn (hs i hi e))).trans (h.block i hi hn)⟩
theorem Rest.set {S : Nat → Prop} {w w1 : World} (h : Rest S w w1) {g : Nat} (hg : S g) (j : Nat) (v : Value) : Rest S w (w1.setCell ⟨g, j, none⟩ v) :=
  ⟨h.os, h.tape, h.output, by simpa using h.size, fun k hk hn => (heap_setCell_other w1 ⟨g, j, none⟩ k v (fun e => hn (e ▸ hg))).trans (h.block k hk hn)⟩
theorem rest_set1 (w : World) (g j : Nat) (v : Value) : Rest (fun k => k = g) w (w.setCell ⟨g, j, none⟩ v) := Rest.set (S := fun k => k = g) (rest_refl _ _) rfl j v
theorem Rest.alloc {S : Nat → Prop} {w w1 : World} (h : Rest S w w1) (o : Obj) : Rest S w (w1.alloc o) :=
  ⟨h.os, h.tape, h.output, Nat.le_trans h.size (by simp), fun k hk hn => (Below.heap_alloc w1 o k (Nat.lt_of_lt_of_le hk h.size)).trans (h.block k hk hn)⟩
theorem Rest.drew {S : Nat → Prop} {w w1 : World} (h : Rest S w w1) : Rest S w w1.drew := ⟨h.os, h.tape, h.output, h.size, h.block⟩
theorem rest_grown {S : Nat → Prop} {w w' : World} {row : Option Nat} (h : w.grownBy w' row) (hs : ∀ k, row = some k → S k) : Rest S w w' :=
  ⟨h.os, h.tape, h.output, h.size, fun k hk hn => h.block k hk (fun e => hn (hs k e.symm))⟩
theorem Rest.below {S : Nat → Prop} {w w' : World} {B : Nat} (h : Rest S w w') (hB : B ≤ w.heap.size) (hs : ∀ k, S k → B ≤ k) : Below B w w' :=
  ⟨h.os, h.tape, h.output, h.size, fun k hk => h.block k (Nat.lt_of_lt_of_le hk hB) (fun e => by have := hs k e; omega)⟩

theorem blkset {w : World} {g j : Nat} {cur : Array Value} {e : TypeId} {v : Value} (h : w.heap[g]? = some (.cells cur e (0, 0))) : (w.setCell ⟨g, j, none⟩ v).heap[g]? = some (.cells (cur.setIfInBounds j v) e (0, 0)) :=
  heap_setCell_same w g j cur e v h
theorem blkcell {w : World} {g : Nat} {cur : Array Value} {e : TypeId} (h : w.heap[g]? = some (.cells cur e (0, 0))) (j : Nat) : w.cell? ⟨g, j, none⟩ = cur[j]? := cell_of_row w g j cur e (0, 0) h
theorem blkfree {w : World} {g : Nat} {cur : Array Value} {e : TypeId} (h : w.heap[g]? = some (.cells cur e (0, 0))) (j : Nat) : w.frozen? ⟨g, j, none⟩ = false := frozen_of_row w g j cur e h
theorem blklt {w : World} {g : Nat} {o : Obj} (h : w.heap[g]? = some o) : g < w.heap.size := (Array.getElem?_eq_some_iff.1 h).1

/-- What a scanner holds (ZZScanner's ten fields; of a textScanner the rest is nought). -/
structure Sc where
  st : Int
  dep : Int
  ok : Int
  ka : Option Addr
  kn : Nat
  kc : Nat
  mem : Int
  deep : Int
  name : Bool
  lit : ByteArray
  ms : Int
  pl : Int

/-- A textScanner's seventeen cells. -/
def sArr (z : Sc) : Array Value := #[.int .u8 z.st, .int .i64 z.dep, .int .u64 z.ok, .slice z.ka z.kn z.kc, .int .i64 z.mem, .int .i64 z.deep, .bool z.name, .int .i64 0, .string z.lit, .bool false, .bool false,
  .int .i64 0, .int .i64 0, .int .i64 z.ms, .int .i64 0, .int .i64 0, .int .i64 z.pl]
/-- A ZZScanner's ten cells. -/
def zArr (z : Sc) : Array Value := #[.int .u8 z.st, .int .i64 z.dep, .int .u64 z.ok, .slice z.ka z.kn z.kc, .int .i64 z.mem, .int .i64 z.deep, .bool z.name, .string z.lit, .int .i64 z.ms, .int .i64 z.pl]
def SBlk (w : World) (s : Nat) (z : Sc) : Prop := w.heap[s]? = some (.cells (sArr z) 57 (0, 0))
def ZBlk (w : World) (s : Nat) (z : Sc) : Prop := w.heap[s]? = some (.cells (zArr z) 42 (0, 0))

/-- The words of its kinds are K, in a row of the call's own (or nil). -/
def KOwn (base : Nat) (w : World) (z : Sc) (K : List Int) : Prop := w.ownsRow base 37 1 (.slice z.ka z.kn z.kc) z.kn (K.map (Value.int .u64))
def kBlk (z : Sc) : Option Nat := (Value.slice z.ka z.kn z.kc).ownBlock

theorem KOwn.len {base : Nat} {w : World} {z : Sc} {K : List Int} (h : KOwn base w z K) : K.length = z.kn := by simpa using h.1
theorem KOwn.lt {base : Nat} {w : World} {z : Sc} {K : List Int} (h : KOwn base w z K) : ∀ k, kBlk z = some k → base ≤ k ∧ k < w.heap.size := World.ownsRow.lt h
theorem KOwn.rest {base : Nat} {w w' : World} {z : Sc} {K : List Int} {S : Nat → Prop} (h : KOwn base w z K) (hr : Rest S w w') (hn : ∀ k, kBlk z = some k → ¬ S k) : KOwn base w' z K := by
  refine ⟨h.1, ?_⟩
  rcases h.2 with hv | ⟨g, cap, cur, hv, hb, hgg, rest⟩
  · exact .inl hv
  · refine .inr ⟨g, cap, cur, hv, hb, ?_, rest⟩
    rw [hr.block g (blklt hgg) (hn g (by simp [kBlk, hv, Value.ownBlock]))]
    exact hgg

end Go.Proofs.Qxb6000752a
