/-
  The walk of kindsWord (41).
-/
import Derived.Test.Qxb6000752aProg
import Derived.Test.Qxb6000752aScanMem
import Derived.WalkSpells
import Derived.WalkLawsBesides
namespace Go.Proofs.Qxb6000752a
open Go.RowKit
theorem Try.info37' : (Try.prog.info? 37).map (fun i => (i.zero, i.size, i.bytes)) = some (some (.int .u64 0), 1, 8) := by kernel_rfl

/-- The bit of the container at depth d. -/
def bitOf (d : Nat) : Int := IntKind.u64.wrap (2 ^ (d % 64))

theorem kw_low (s d : Nat) (w : World) (hd : d < 64) :
    Calls Try.prog 41 #[.pointer (some ⟨s, 0, none⟩), .int .i64 d] w fun e w' => e = .returned (.tuple #[.pointer (some ⟨s, 2, none⟩), .int .u64 (bitOf d)]) ∧ w' = w := by
  go_enter Try.func41, Try.ntmps41
  go_wp2
  go_ret2
  exact ⟨rfl, rfl⟩

theorem kw_mid (s d g kn kc : Nat) (w : World) (hd : 64 ≤ d) (hd2 : d ≤ 1000000000) (hn : d / 64 - 1 < kn) (hnn : kn ≤ 1000000000) (h3 : w.cell? ⟨s, 3, none⟩ = some (.slice (some ⟨g, 0, none⟩) kn kc)) :
    Calls Try.prog 41 #[.pointer (some ⟨s, 0, none⟩), .int .i64 d] w fun e w' => e = .returned (.tuple #[.pointer (some ⟨g, d / 64 - 1, none⟩), .int .u64 (bitOf d)]) ∧ w' = w := by
  go_enter Try.func41, Try.ntmps41
  go_wp2
  go_ret2
  exact ⟨rfl, rfl⟩

theorem one_cell' (w : World) (v : Value) (t : TypeId) : ∀ j u, [v][j]? = some u → (w.alloc (.cells #[v] t)).cell? ((⟨w.heap.size, 0, none⟩ : Addr).add j) = some u := by
  intro j u hj
  match j, hj with
  | 0, hj => simp at hj; subst hj; simp [Addr.add]

set_option maxHeartbeats 1000000 in
theorem kw_grow (base s d : Nat) (z : Sc) (K : List Int) (w : World) (hd : 64 ≤ d) (hd2 : d ≤ 1000000000) (hn : d / 64 - 1 = z.kn) (hs : SBlk w s z) (hk : KOwn base w z K) (hne : kBlk z ≠ some s) (hbase : base ≤ w.heap.size) :
    Calls Try.prog 41 #[.pointer (some ⟨s, 0, none⟩), .int .i64 d] w fun e w' => ∃ g cap, e = .returned (.tuple #[.pointer (some ⟨g, z.kn, none⟩), .int .u64 (bitOf d)]) ∧
      SBlk w' s { z with ka := some ⟨g, 0, none⟩, kn := z.kn + 1, kc := cap } ∧ KOwn base w' { z with ka := some ⟨g, 0, none⟩, kn := z.kn + 1, kc := cap } (K ++ [0]) ∧ g ≠ s ∧ (kBlk z = some g ∨ w.heap.size ≤ g) ∧
      Rest (fun k => k = s ∨ kBlk z = some k) w w' := by
  obtain ⟨i0, hi, hz0, hz1, hz2⟩ := info_parts Try.info37'
  have h3 : w.cell? ⟨s, 3, none⟩ = some (.slice z.ka z.kn z.kc) := blkcell hs 3
  have hf3 : w.frozen? ⟨s, 3, none⟩ = false := blkfree hs 3
  have hslt := blklt hs
  have HS : Hid (SBlk w s z) := hs
  have HK : Hid (KOwn base w z K) := hk
  have HN : Hid (d / 64 - 1 = z.kn) := hn
  have HNE : Hid (kBlk z ≠ some s) := hne
  have hkn : z.kn ≤ 1000000000 := by omega
  have heq : ((d : Int) / 64 - 1 == (z.kn : Int)) = true := by simp; omega
  have hidx : (d : Int) / 64 - 1 = (z.kn : Int) := by omega
  have HI : Hid ((d : Int) / 64 - 1 = (z.kn : Int)) := hidx
  clear hs hk hn hne
  go_enter Try.func41, Try.ntmps41
  go_wp2_with (at_builtin; refine wpList_append_lies _ rfl (.tmp 31) (.tmp 32) 38 rfl base 37 i0 (.int .u64 0) 1 8 Try.underlying38 hi hz0 hz1 hz2 rfl (by decide) _ z.kn (K.map (Value.int .u64)) rfl (World.ownsRow.alloc HK.out _) ⟨w.heap.size, 0, none⟩ 1 1 [.int .u64 0] rfl rfl (one_cell' _ _ _) (by intro u hu; simp at hu; subst hu; rfl) (by omega) (by unfold maxLen; omega) (by omega) (by simp; omega) (w.heap.size + 1) (by simp) ?_)
  intro g cap w1 hown hgrow hat hlt
  have hs0 : (w.alloc (.cells #[.int .u64 0] 37)).heap[s]? = some (.cells (sArr z) 57 (0, 0)) := (Below.heap_alloc w _ s hslt).trans HS.out
  have hs1 : w1.heap[s]? = some (.cells (sArr z) 57 (0, 0)) := (hgrow.block s (by simp; omega) (fun e => HNE.out e.symm)).trans hs0
  have c3 : w1.cell? ⟨s, 3, none⟩ = some (.slice z.ka z.kn z.kc) := blkcell hs1 3
  have f3 : w1.frozen? ⟨s, 3, none⟩ = false := blkfree hs1 3
  have HS1 : Hid (w1.heap[s]? = some (.cells (sArr z) 57 (0, 0))) := hs1
  have HO : Hid (w1.ownsRow base 37 1 (Value.slice (some { block := g, off := 0 }) (z.kn + 1) cap) (z.kn + 1) (List.map (Value.int IntKind.u64) K ++ [Value.int IntKind.u64 0])) := hown
  have hgs : g ≠ s := by
    rcases hat with h | h
    · intro e; exact HNE.out (by rw [← e]; exact h)
    · omega
  have hat' : kBlk z = some g ∨ w.heap.size ≤ g := by
    rcases hat with h | h
    · exact .inl h
    · exact .inr (by omega)
  have HAT : Hid (kBlk z = some g ∨ w.heap.size ≤ g) := hat'
  have HGS : Hid (g ≠ s) := hgs
  have HG : Hid ((w.alloc (Obj.cells #[Value.int IntKind.u64 0] 37)).grownBy w1 (kBlk z)) := hgrow
  clear hs0 hs1 hown hat hat' hgs hgrow h3 hf3
  go_wp2
  go_ret2
  refine ⟨g, cap, rfl, blkset HS1.out, ?_, HGS.out, HAT.out, ?_⟩
  · have h1 : KOwn base w1 { z with ka := some ⟨g, 0, none⟩, kn := z.kn + 1, kc := cap } (K ++ [0]) := by
      have := HO.out
      unfold KOwn
      simpa using this
    have hr := rest_set1 w1 s 3 (Value.slice (some { block := g, off := 0 }) (z.kn + 1) cap)
    refine h1.rest hr ?_
    intro k hk
    have : k = g := by simpa [kBlk, Value.ownBlock] using hk.symm
    rw [this]; exact HGS.out
  · refine Rest.set ?_ (.inl rfl) _ _
    exact ((rest_refl _ w).alloc _).trans (rest_grown HG.out (fun k hk => .inr hk))

end Go.Proofs.Qxb6000752a
