/-
  What ZZBeginValue (28) does to the ZZScanner that it is handed.
-/
import Derived.Test.Qxb6000752aZZ
namespace Go.Proofs.Qxb6000752a
open Go.RowKit

theorem zz_plain (zb : Nat) (c : Int) (z : Sc) (w : World) (hc0 : 0 ≤ c) (hc1 : c ≤ 255) (h123 : c ≠ 123) (h91 : c ≠ 91) (hz : ZBlk w zb z) :
    Calls Try.prog 28 #[.pointer (some ⟨zb, 0, none⟩), .int .u8 c] w fun e w' => e = .returned (.int .u8 (bv c (pre1 z)).1) ∧ ZBlk w' zb (bv c (pre1 z)).2 ∧ Rest (fun k => k = zb) w w' := by
  have hlt := blklt hz
  have hal : ∀ k, k < w.heap.size → (w.alloc (.cells (sArr z) 57)).heap[k]? = w.heap[k]? := fun k hk => Below.heap_alloc w _ k hk
  refine (zz_gen zb c z w (bv c (pre1 z)).1 (fun w2 z' => z' = (bv c (pre1 z)).2 ∧ Rest (fun k => k = w.heap.size) (w.alloc (.cells (sArr z) 57)) w2) hz ?_).mono ?_
  · refine (begin_plain w.heap.size c z _ hc0 hc1 h123 h91 (heap_alloc_new w _)).mono ?_
    rintro e w2 ⟨rfl, hs, hr⟩
    refine ⟨rfl, _, hs, ⟨rfl, hr⟩, ?_⟩
    exact (hr.block zb (by simp; omega) (by omega)).trans ((hal zb hlt).trans hz)
  · rintro e w' ⟨rfl, w2, z', ⟨rfl, hr⟩, hz', hr'⟩
    refine ⟨rfl, hz', ?_⟩
    have h1 : Rest (fun k => k = w.heap.size) w w2 := ((rest_refl _ w).alloc _).trans hr
    have h2 : Rest (fun k => k = zb) w w2 := h1.mono fun k hk e => by omega
    exact h2.trans hr'

/-- What opening leaves of the ZZScanner. -/
def ZOpen (base : Nat) (w : World) (zb : Nat) (z : Sc) (K : List Int) (d : Nat) (o : Bool) (w' : World) : Prop :=
  ∃ ka kc, ZBlk w' zb { zopen (pre1 z) K d o ka kc with st := ost o } ∧ KOwn base w' { zopen (pre1 z) K d o ka kc with st := ost o } (opn z.ok K d o).2 ∧ kBlk { zopen (pre1 z) K d o ka kc with st := ost o } ≠ some zb ∧
    (kBlk { zopen (pre1 z) K d o ka kc with st := ost o } = kBlk z ∨ ∃ g, kBlk { zopen (pre1 z) K d o ka kc with st := ost o } = some g ∧ w.heap.size ≤ g) ∧ Rest (fun k => k = zb ∨ kBlk z = some k) w w'

theorem zz_open (base zb d : Nat) (o : Bool) (c : Int) (z : Sc) (K : List Int) (w : World) (hc : c = if o then 123 else 91) (hf : Fits d z.kn) (hkn : z.kn ≤ 10000000) (hdep : z.dep = d) (hz : ZBlk w zb z) (hk : KOwn base w z K) (hne : kBlk z ≠ some zb) (hbase : base ≤ w.heap.size) :
    Calls Try.prog 28 #[.pointer (some ⟨zb, 0, none⟩), .int .u8 c] w fun e w' => e = .returned (.int .u8 0) ∧ ZOpen base w zb z K d o w' := by
  have hlt := blklt hz
  have hal : ∀ k, k < w.heap.size → (w.alloc (.cells (sArr z) 57)).heap[k]? = w.heap[k]? := fun k hk => Below.heap_alloc w _ k hk
  have hkl := hk.lt
  refine (zz_gen zb c z w 0 (fun w2 z' => ∃ ka kc, z' = { zopen (pre1 z) K d o ka kc with st := ost o } ∧ KOwn base w2 z' (opn z.ok K d o).2 ∧ kBlk z' ≠ some zb ∧ (kBlk z' = kBlk z ∨ ∃ g, kBlk z' = some g ∧ w.heap.size ≤ g) ∧
      Rest (fun k => k = w.heap.size ∨ kBlk z = some k) (w.alloc (.cells (sArr z) 57)) w2) hz ?_).mono ?_
  · refine (begin_open base w.heap.size d o c z K _ hc hf hkn hdep (heap_alloc_new w _) (World.ownsRow.alloc hk _) (fun e => by have := hkl _ e; omega) (by simp; omega)).mono ?_
    rintro e w2 ⟨rfl, ka, kc, h1, h2, h3, h4, h5⟩
    refine ⟨rfl, _, h1, ⟨ka, kc, rfl, h2, ?_, ?_, h5⟩, ?_⟩
    · rcases h4 with h4 | ⟨g, h4, hg⟩
      · rw [h4]; exact hne
      · rw [h4]
        intro e
        have : g = zb := by simpa using e
        simp at hg
        omega
    · rcases h4 with h4 | ⟨g, h4, hg⟩
      · exact .inl h4
      · exact .inr ⟨g, h4, by simp at hg; omega⟩
    · refine (h5.block zb (by simp; omega) ?_).trans ((hal zb hlt).trans hz)
      rintro (e | e)
      · omega
      · exact hne e
  · rintro e w' ⟨rfl, w2, z', ⟨ka, kc, rfl, h2, h3, h4, h5⟩, hz', hr'⟩
    refine ⟨rfl, ka, kc, hz', ?_, h3, h4, ?_⟩
    · exact h2.rest hr' (fun k hk' e => h3 (by rw [hk', e]))
    · have h1 : Rest (fun k => k = w.heap.size ∨ kBlk z = some k) w w2 := ((rest_refl _ w).alloc _).trans h5
      have h6 : Rest (fun k => k = zb ∨ kBlk z = some k) w w2 := h1.mono fun k hk e => by
        rcases e with e | e
        · omega
        · exact .inr e
      exact h6.trans (hr'.mono fun k _ h => .inl h)

end Go.Proofs.Qxb6000752a
