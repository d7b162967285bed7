/-
  The builder in memory; the walk of both (20).
-/
import Derived.Test.Qxb6000752aProg
import Derived.Test.Qxb6000752aScanMem
import Derived.WalkSpells
import Derived.WalkLawsBesides
namespace Go.Proofs.Qxb6000752a
open Go.RowKit
theorem Try.info5b : (Try.prog.info? 5).map (fun i => (i.zero, i.size, i.bytes)) = some (some (.int .u8 0), 1, 1) := by kernel_rfl

/-- A row of bytes of the call's own. -/
def O8 (base : Nat) (w : World) (v : Value) (xs : List Int) : Prop := w.ownsRow base 5 1 v xs.length (xs.map (Value.int .u8))
theorem O8.rest {base : Nat} {w w' : World} {v : Value} {xs : List Int} {S : Nat → Prop} (h : O8 base w v xs) (hr : Rest S w w') (hn : ∀ k, v.ownBlock = some k → ¬ S k) : O8 base w' v xs := by
  refine ⟨h.1, ?_⟩
  rcases h.2 with hv | ⟨g, cap, cur, hv, hb, hgg, rest⟩
  · exact .inl hv
  · refine .inr ⟨g, cap, cur, hv, hb, ?_, rest⟩
    rw [hr.block g (blklt hgg) (hn g (by rw [hv]; rfl))]
    exact hgg
theorem O8.lt {base : Nat} {w : World} {v : Value} {xs : List Int} (h : O8 base w v xs) : ∀ k, v.ownBlock = some k → base ≤ k ∧ k < w.heap.size := World.ownsRow.lt h

/-- The builder: what it has written twice, and how much of the blanks' bytes is read. -/
structure Jb (base : Nat) (w : World) (jb : Nat) (wv : Value) (C S : List Int) (n : Nat) (ca : Option Addr) (cc : Nat) (sa : Option Addr) (sc : Nat) : Prop where
  blk : w.heap[jb]? = some (.cells #[.slice ca C.length cc, .slice sa S.length sc, wv, .int .i64 n] 33 (0, 0))
  oc : O8 base w (.slice ca C.length cc) C
  os : O8 base w (.slice sa S.length sc) S
  nc : (Value.slice ca C.length cc).ownBlock ≠ some jb
  ns : (Value.slice sa S.length sc).ownBlock ≠ some jb
  ncs : ∀ g, (Value.slice ca C.length cc).ownBlock = some g → (Value.slice sa S.length sc).ownBlock ≠ some g
def JB (base : Nat) (w : World) (jb : Nat) (wv : Value) (C S : List Int) (n : Nat) : Prop := ∃ ca cc sa sc, Jb base w jb wv C S n ca cc sa sc

theorem one_cell8 (w : World) (v : Value) (t : TypeId) : ∀ j u, [v][j]? = some u → (w.alloc (.cells #[v] t)).cell? ((⟨w.heap.size, 0, none⟩ : Addr).add j) = some u := by
  intro j u hj
  match j, hj with
  | 0, hj => simp at hj; subst hj; simp [Addr.add]

theorem one_cell_at (w : World) (v : Value) (t : TypeId) (N : Nat) (hN : N = w.heap.size) : ∀ j u, [v][j]? = some u → (w.alloc (.cells #[v] t)).cell? ((⟨N, 0, none⟩ : Addr).add j) = some u := by
  subst hN; exact one_cell8 w v t

/-- What an append to the row v, beside a block jb and another row u, leaves. -/
theorem app_step {base jb : Nat} {w w1 : World} {v u : Value} {xs ys : List Int} {o : Obj} {g m cap : Nat} {c : Int} {cur : Array Value} (hblk : w.heap[jb]? = some (.cells cur 33 (0, 0))) (hv : O8 base w v xs) (hu : O8 base w u ys)
    (hbase : base ≤ w.heap.size) (hnv : v.ownBlock ≠ some jb) (hnvu : ∀ g, v.ownBlock = some g → u.ownBlock ≠ some g) (hm : m = xs.length)
    (hown : w1.ownsRow base 5 1 (.slice (some ⟨g, 0, none⟩) (m + 1) cap) (m + 1) (xs.map (Value.int .u8) ++ [.int .u8 c])) (hgrow : (w.alloc o).grownBy w1 v.ownBlock) (hat : v.ownBlock = some g ∨ g = w.heap.size + 1) :
    w1.heap[jb]? = some (.cells cur 33 (0, 0)) ∧ O8 base w1 (.slice (some ⟨g, 0, none⟩) (xs ++ [c]).length cap) (xs ++ [c]) ∧ O8 base w1 u ys ∧ g ≠ jb ∧ (u.ownBlock ≠ some g) ∧ Below base w w1 ∧ w.heap.size ≤ w1.heap.size := by
  have hlt := blklt hblk
  have hr : Rest (fun k => v.ownBlock = some k) w w1 := ((rest_refl _ w).alloc o).trans (rest_grown hgrow (fun k hk => hk))
  refine ⟨(hr.block jb hlt hnv).trans hblk, ?_, hu.rest hr (fun k hk e => hnvu k e hk), ?_, ?_, ?_, hr.size⟩
  · unfold O8
    rw [show (xs ++ [c]).length = m + 1 from by simp [hm]]
    simpa using hown
  · rcases hat with h | h
    · intro e; exact hnv (by rw [h, e])
    · omega
  · rcases hat with h | h
    · exact hnvu g h
    · intro e; have := hu.lt _ e; omega
  · exact hr.below hbase (fun k hk => (hv.lt k hk).1)

set_option maxHeartbeats 1600000 in
theorem both_j (base jb : Nat) (wv : Value) (C S : List Int) (n : Nat) (c : Int) (w : World) (hj : JB base w jb wv C S n) (hC : C.length ≤ 1099511627776) (hS : S.length ≤ 1099511627776) (hb : base ≤ jb) :
    Calls Try.prog 20 #[.pointer (some ⟨jb, 0, none⟩), .int .u8 c] w fun e w' => e = .returned (.tuple #[]) ∧ JB base w' jb wv (C ++ [c]) (S ++ [c]) n ∧ Below base w w' := by
  obtain ⟨ca, cc, sa, sc, h⟩ := hj
  obtain ⟨i0, hi, hz0, hz1, hz2⟩ := info_parts Try.info5b
  have hlt := blklt h.blk
  have d0 : w.cell? ⟨jb, 0, none⟩ = some (.slice ca C.length cc) := blkcell h.blk 0
  have H : Hid (Jb base w jb wv C S n ca cc sa sc) := h
  have HB : Hid (base ≤ w.heap.size) := by rw [Hid]; omega
  clear h
  go_enter Try.func20, Try.ntmps20
  go_wp2_with (at_builtin; refine wpList_append_lies _ rfl (.tmp 8) (.tmp 10) 23 rfl base 5 i0 (.int .u8 0) 1 1 Try.underlying23 hi hz0 hz1 hz2 rfl (by decide) _ C.length (C.map (Value.int .u8)) rfl (World.ownsRow.alloc H.out.oc _) ⟨w.heap.size, 0, none⟩ 1 1 [.int .u8 c] rfl rfl (one_cell8 _ _ _) (by intro u hu; simp at hu; subst hu; rfl) (by omega) (by unfold maxLen; omega) (by omega) (by simp; omega) (w.heap.size + 1) (by simp) ?_)
  intro g cap w1 hown hgrow hat hglt
  obtain ⟨b1, o1, u1, n1, n2, bel1, sz1⟩ := app_step H.out.blk H.out.oc H.out.os HB.out H.out.nc H.out.ncs rfl hown hgrow hat
  clear hown hgrow hat
  have d0' : w1.cell? ⟨jb, 0, none⟩ = some (.slice ca C.length cc) := blkcell b1 0
  have d1' : w1.cell? ⟨jb, 1, none⟩ = some (.slice sa S.length sc) := blkcell b1 1
  have f0' : w1.frozen? ⟨jb, 0, none⟩ = false := blkfree b1 0
  have hr2 := rest_set1 w1 jb 0 (.slice (some ⟨g, 0, none⟩) (C.length + 1) cap)
  have b2 := blkset (j := 0) (v := .slice (some ⟨g, 0, none⟩) (C.length + 1) cap) b1
  have o2 := o1.rest hr2 (fun k hk e => n1 ((Option.some.inj hk).trans e))
  have u2 := u1.rest hr2 (fun k hk e => H.out.ns (by rw [hk, e]))
  have bel2 : Below base w (w1.setCell ⟨jb, 0, none⟩ (.slice (some ⟨g, 0, none⟩) (C.length + 1) cap)) := bel1.setCell hb _
  have hsz : (w1.setCell ⟨jb, 0, none⟩ (.slice (some ⟨g, 0, none⟩) (C.length + 1) cap)).heap.size = w1.heap.size := by simp
  have HO2 : Hid (O8 base (w1.setCell ⟨jb, 0, none⟩ (.slice (some ⟨g, 0, none⟩) (C.length + 1) cap)) (.slice (some ⟨g, 0, none⟩) (C ++ [c]).length cap) (C ++ [c])) := o2
  have HU2 : Hid (O8 base (w1.setCell ⟨jb, 0, none⟩ (.slice (some ⟨g, 0, none⟩) (C.length + 1) cap)) (.slice sa S.length sc) S) := u2
  have HB2 : Hid ((w1.setCell ⟨jb, 0, none⟩ (.slice (some ⟨g, 0, none⟩) (C.length + 1) cap)).heap[jb]? = some (.cells #[.slice (some ⟨g, 0, none⟩) (C.length + 1) cap, .slice sa S.length sc, wv, .int .i64 n] 33 (0, 0))) := b2
  have HL2 : Hid (Below base w (w1.setCell ⟨jb, 0, none⟩ (.slice (some ⟨g, 0, none⟩) (C.length + 1) cap))) := bel2
  have HSZ : Hid ((w1.setCell ⟨jb, 0, none⟩ (.slice (some ⟨g, 0, none⟩) (C.length + 1) cap)).heap.size = w1.heap.size) := hsz
  have HN1 : Hid (g ≠ jb) := n1
  have HN2 : Hid ((Value.slice sa S.length sc).ownBlock ≠ some g) := n2
  have hbw : base ≤ w1.heap.size := Nat.le_trans HB.out sz1
  clear b2 o2 u2 bel2 b1 o1 u1 n1 n2 bel1 hr2 hsz
  go_wp2_with (at_builtin; refine wpList_append_lies _ rfl (.tmp 18) (.tmp 20) 23 rfl base 5 i0 (.int .u8 0) 1 1 Try.underlying23 hi hz0 hz1 hz2 rfl (by decide) _ S.length (S.map (Value.int .u8)) rfl (World.ownsRow.alloc HU2.out _) ⟨w1.heap.size, 0, none⟩ 1 1 [.int .u8 c] rfl rfl (one_cell_at _ _ _ _ HSZ.out.symm) (by intro u hu; simp at hu; subst hu; rfl) (by omega) (by unfold maxLen; omega) (by omega) (by simp; omega) (w1.heap.size + 1) (by simp) ?_)
  intro g2 cap2 w2 hown2 hgrow2 hat2 _
  obtain ⟨b3, o3, u3, n3, n4, bel3, sz3⟩ := app_step HB2.out HU2.out HO2.out (by rw [HSZ.out]; exact hbw) H.out.ns (fun k hk e => HN2.out (by rw [hk]; exact e.symm)) rfl hown2 hgrow2 (by rw [HSZ.out]; exact hat2)
  have e1 : w2.cell? ⟨jb, 1, none⟩ = some (.slice sa S.length sc) := blkcell b3 1
  have f1 : w2.frozen? ⟨jb, 1, none⟩ = false := blkfree b3 1
  have HB3 : Hid (w2.heap[jb]? = some (.cells #[.slice (some ⟨g, 0, none⟩) (C.length + 1) cap, .slice sa S.length sc, wv, .int .i64 n] 33 (0, 0))) := b3
  have HO3 : Hid (O8 base w2 (.slice (some ⟨g2, 0, none⟩) (S ++ [c]).length cap2) (S ++ [c])) := o3
  have HU3 : Hid (O8 base w2 (.slice (some ⟨g, 0, none⟩) (C ++ [c]).length cap) (C ++ [c])) := u3
  have HN3 : Hid (g2 ≠ jb) := n3
  have HN4 : Hid ((Value.slice (some ⟨g, 0, none⟩) (C ++ [c]).length cap).ownBlock ≠ some g2) := n4
  have HL3 : Hid (Below base w w2) := HL2.out.trans bel3
  clear hown2 hgrow2 hat2 b3 o3 u3 n3 n4 bel3 sz3 HO2 HU2 HB2 HL2 HSZ
  go_wp2
  go_end0
  have hr4 := rest_set1 w2 jb 1 (.slice (some ⟨g2, 0, none⟩) (S.length + 1) cap2)
  have lC : (C ++ [c]).length = C.length + 1 := by simp
  have lS : (S ++ [c]).length = S.length + 1 := by simp
  refine ⟨rfl, ⟨some ⟨g, 0, none⟩, cap, some ⟨g2, 0, none⟩, cap2, ?_, ?_, ?_, ?_, ?_, ?_⟩, HL3.out.setCell hb _⟩
  · rw [lC, lS]; exact blkset HB3.out
  · exact HU3.out.rest hr4 (fun k hk e => HN1.out ((Option.some.inj hk).trans e))
  · exact HO3.out.rest hr4 (fun k hk e => HN3.out ((Option.some.inj hk).trans e))
  · exact fun e => HN1.out (Option.some.inj e)
  · exact fun e => HN3.out (Option.some.inj e)
  · intro k hk e
    exact HN4.out (hk.trans e.symm)

end Go.Proofs.Qxb6000752a
