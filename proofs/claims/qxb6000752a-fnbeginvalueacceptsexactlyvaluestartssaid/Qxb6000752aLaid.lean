/-
  ZZBeginValue (28) on a scanner that a law has just laid, its kinds a clone of a clone.
-/
import Derived.Test.Qxb6000752aClone2
import Derived.Test.Qxb6000752aOpn
namespace Go.Proofs.Qxb6000752a
open Go.RowKit

theorem kBlk_cloned {w1 w2 : World} {a2 : Option Addr} {base : Nat} {xs : List Int} {z : Sc} (hc2 : Cloned w1 w2 a2 base xs) (hka : z.ka = a2) {k : Nat} (h : kBlk z = some k) : k = w1.heap.size := by
  unfold kBlk at h
  rw [hka] at h
  rcases hc2.lies with e | e
  · rw [e] at h; simp [Value.ownBlock] at h
  · rw [e] at h; simp [Value.ownBlock] at h; exact h.symm
theorem laid_own {w w1 w2 : World} {a2 : Option Addr} {xs : List Int} {z : Sc} (hc2 : Cloned w1 w2 a2 w.heap.size xs) (hka : z.ka = a2) (hkn : z.kn = xs.length) (hkc : z.kc = xs.length) : KOwn w.heap.size w2 z xs := by
  unfold KOwn; rw [hka, hkn, hkc]; exact hc2.owns
theorem laid_kept {w w1 w2 w4 : World} {a1 a2 : Option Addr} {xs : List Int} (hc1 : Cloned w w1 a1 w.heap.size xs) (hc2 : Cloned w1 w2 a2 w.heap.size xs) {o : Obj} {S : Nat → Prop} (hr : Rest S (w2.alloc o) w4)
    (hS : ∀ k, k < w2.heap.size → S k → k = w1.heap.size) : Reads .u64 w4 a1 w.heap.size 0 xs := by
  refine hc1.reads.same fun h0 => ?_
  have hlt := hc1.reads.lt h0
  have h2 := hc2.below.size
  have e1 : w2.heap[w.heap.size]? = w1.heap[w.heap.size]? := hc2.below.block _ hlt
  have e2 : (w2.alloc o).heap[w.heap.size]? = w2.heap[w.heap.size]? := Below.heap_alloc w2 o _ (by omega)
  rw [hr.block _ (by simp; omega) (fun e => by have := hS _ (by omega) e; omega), e2, e1]
theorem laid_below {w w1 w2 w4 : World} {a1 a2 : Option Addr} {xs : List Int} (hc1 : Cloned w w1 a1 w.heap.size xs) (hc2 : Cloned w1 w2 a2 w.heap.size xs) {o : Obj} {S : Nat → Prop} (hr : Rest S (w2.alloc o) w4)
    (hS : ∀ k, S k → w.heap.size ≤ k) : Below w.heap.size w w4 := by
  have h1 := hc1.below.size
  have h2 := hc2.below.size
  have b2 := hc1.below.trans (hc2.below.mono h1)
  exact (b2.alloc (by omega) o).trans (hr.below (by simp; omega) hS)

theorem laid_open (w w1 w2 : World) (a1 a2 : Option Addr) (xs : List Int) (hc1 : Cloned w w1 a1 w.heap.size xs) (hc2 : Cloned w1 w2 a2 w.heap.size xs) (z : Sc) (hka : z.ka = a2) (hkn : z.kn = xs.length) (hkc : z.kc = xs.length)
    (d : Nat) (o : Bool) (c : Int) (hc : c = if o then 123 else 91) (hf : Fits d xs.length) (hlen : xs.length ≤ 10000000) (hdep : z.dep = d) :
    Calls Try.prog 28 #[.pointer (some ⟨w2.heap.size, 0, none⟩), .int .u8 c] (w2.alloc (.cells (zArr z) 42)) fun e w4 => e = .returned (.int .u8 0) ∧
      ∃ ka kc, ZBlk w4 w2.heap.size { zopen (pre1 z) xs d o ka kc with st := ost o } ∧ KOwn w.heap.size w4 { zopen (pre1 z) xs d o ka kc with st := ost o } (opn z.ok xs d o).2 ∧ Reads .u64 w4 a1 w.heap.size 0 xs ∧ Below w.heap.size w w4 := by
  have h1 := hc1.below.size
  have h2 := hc2.below.size
  have hown := laid_own hc2 hka hkn hkc
  have hown3 : KOwn w.heap.size (w2.alloc (.cells (zArr z) 42)) z xs := World.ownsRow.alloc hown _
  refine (zz_open w.heap.size w2.heap.size d o c z xs _ hc (by rw [hkn]; exact hf) (by rw [hkn]; exact hlen) hdep (heap_alloc_new w2 _) hown3 (fun e => by have := hown.lt _ e; omega) (by simp; omega)).mono ?_
  rintro e w4 ⟨rfl, ka, kc, g1, g2, _, _, g5⟩
  refine ⟨rfl, ka, kc, g1, g2, laid_kept hc1 hc2 g5 ?_, laid_below hc1 hc2 g5 ?_⟩
  · rintro k hk (e | e)
    · omega
    · exact kBlk_cloned hc2 hka e
  · rintro k (e | e)
    · omega
    · exact (hown.lt k e).1

theorem laid_plain (w w1 w2 : World) (a1 a2 : Option Addr) (xs : List Int) (hc1 : Cloned w w1 a1 w.heap.size xs) (hc2 : Cloned w1 w2 a2 w.heap.size xs) (z : Sc) (hka : z.ka = a2) (hkn : z.kn = xs.length)
    (c : Int) (hc0 : 0 ≤ c) (hc255 : c ≤ 255) (h123 : c ≠ 123) (h91 : c ≠ 91) :
    Calls Try.prog 28 #[.pointer (some ⟨w2.heap.size, 0, none⟩), .int .u8 c] (w2.alloc (.cells (zArr z) 42)) fun e w4 => e = .returned (.int .u8 (bv c (pre1 z)).1) ∧
      ZBlk w4 w2.heap.size (bv c (pre1 z)).2 ∧ Reads .u64 w4 z.ka w1.heap.size 0 xs ∧ Reads .u64 w4 a1 w.heap.size 0 xs ∧ Below w.heap.size w w4 := by
  have h1 := hc1.below.size
  have h2 := hc2.below.size
  have _ := hkn
  refine (zz_plain w2.heap.size c z _ hc0 hc255 h123 h91 (heap_alloc_new w2 _)).mono ?_
  rintro e w4 ⟨rfl, g1, g2⟩
  refine ⟨rfl, g1, ?_, laid_kept hc1 hc2 g2 (fun k hk e => by omega), laid_below hc1 hc2 g2 (fun k e => by omega)⟩
  rw [hka]
  refine hc2.reads.same fun h0 => ?_
  have hlt := hc2.reads.lt h0
  rw [g2.block _ (by simp; omega) (by omega)]
  exact Below.heap_alloc w2 _ _ hlt

end Go.Proofs.Qxb6000752a
