/-
  The walk of open (40).
-/
import Derived.Test.Qxb6000752aKinds
import Derived.RegionTactic
import Derived.BigRegion
namespace Go.Proofs.Qxb6000752a
open Go.RowKit

/-- The bit cleared, then set where it is an object. -/
def setb (x b : Int) (o : Bool) : Int := if o then bits .or .u64 (bits .andNot .u64 x b) b else bits .andNot .u64 x b
def deepr (x : Int) (d : Nat) : Int := if x < (d : Int) + 1 then (d : Int) + 1 else x
/-- The words behind the opening of a container at depth d. -/
def opw (K : List Int) (d : Nat) : List Int := if d / 64 - 1 = K.length then K ++ [0] else K
def opn (ok : Int) (K : List Int) (d : Nat) (o : Bool) : Int × List Int :=
  if d < 64 then (setb ok (bitOf d) o, K) else (ok, (opw K d).set (d / 64 - 1) (setb ((opw K d).getD (d / 64 - 1) 0) (bitOf d) o))
/-- The scanner behind it. -/
def zopen (z : Sc) (K : List Int) (d : Nat) (o : Bool) (ka : Option Addr) (kc : Nat) : Sc :=
  { z with dep := (d : Int) + 1, ok := (opn z.ok K d o).1, ka := ka, kn := (opn z.ok K d o).2.length, kc := kc, deep := deepr z.deep d }

theorem KOwn.store {base : Nat} {w : World} {z : Sc} {K : List Int} (h : KOwn base w z K) {g : Nat} (hg : z.ka = some ⟨g, 0, none⟩) (j : Nat) (x : Int) :
    KOwn base (w.setCell ⟨g, j, none⟩ (.int .u64 x)) z (K.set j x) := by
  have h' : w.ownsRow base 37 1 (.slice (some ⟨g, 0, none⟩) z.kn z.kc) z.kn (K.map (Value.int .u64)) := by rw [← hg]; exact h
  have := (World.ownsRow.stored h' j (.int .u64 x)).1
  unfold KOwn
  rw [hg, List.map_set]
  exact this
theorem KOwn.cell {base : Nat} {w : World} {z : Sc} {K : List Int} (h : KOwn base w z K) {g : Nat} (hg : z.ka = some ⟨g, 0, none⟩) {j : Nat} (hj : j < z.kn) : w.cell? ⟨g, j, none⟩ = some (.int .u64 (K.getD j 0)) := by
  have h' : w.ownsRow base 37 1 (.slice (some ⟨g, 0, none⟩) z.kn z.kc) z.kn (K.map (Value.int .u64)) := by rw [← hg]; exact h
  have hl := h.len
  rw [World.ownsRow.cellAt h' j (by omega)]
  simp [List.getElem?_eq_getElem (show j < K.length by omega)]
theorem KOwn.free {base : Nat} {w : World} {z : Sc} {K : List Int} (h : KOwn base w z K) {g : Nat} (hg : z.ka = some ⟨g, 0, none⟩) (j : Nat) : w.frozen? ⟨g, j, none⟩ = false := by
  have h' : w.ownsRow base 37 1 (.slice (some ⟨g, 0, none⟩) z.kn z.kc) z.kn (K.map (Value.int .u64)) := by rw [← hg]; exact h
  exact World.ownsRow.frozenAt h' j
theorem KOwn.form {base : Nat} {w : World} {z : Sc} {K : List Int} (h : KOwn base w z K) (h0 : 0 < z.kn) : ∃ g, z.ka = some ⟨g, 0, none⟩ := by
  rcases h.2 with ⟨_, hn⟩ | ⟨g, cap, cur, hv, _⟩
  · omega
  · simp only [Value.slice.injEq] at hv
    exact ⟨g, hv.1⟩
/-- The same words under another scanner with the same slice. -/
theorem KOwn.as {base : Nat} {w : World} {z z' : Sc} {K : List Int} (h : KOwn base w z K) (h1 : z'.ka = z.ka) (h2 : z'.kn = z.kn) (h3 : z'.kc = z.kc) : KOwn base w z' K := by
  unfold KOwn; rw [h1, h2, h3]; exact h
theorem kBlk_as {z z' : Sc} (h1 : z'.ka = z.ka) : kBlk z' = kBlk z := by
  unfold kBlk; rw [h1]; cases z.ka <;> rfl
theorem kBlk_some {z : Sc} {g : Nat} (h : z.ka = some ⟨g, 0, none⟩) : kBlk z = some g := by unfold kBlk; rw [h]; rfl

theorem KOwn.past {base : Nat} {w : World} {z : Sc} {K : List Int} (h : KOwn base w z K) {s : Nat} (hne : kBlk z ≠ some s) (j : Nat) (v : Value) : KOwn base (w.setCell ⟨s, j, none⟩ v) z K :=
  h.rest (rest_set1 w s j v) (fun k hk e => hne (by rw [hk, e]))
theorem KOwn.store2 {base : Nat} {w : World} {z : Sc} {K : List Int} (h : KOwn base w z K) {g : Nat} (hg : z.ka = some ⟨g, 0, none⟩) (j : Nat) (x y : Int) :
    KOwn base ((w.setCell ⟨g, j, none⟩ (.int .u64 x)).setCell ⟨g, j, none⟩ (.int .u64 y)) z (K.set j y) := by
  have := (h.store hg j x).store hg j y
  rwa [List.set_set] at this

/-- What opening does. -/
def Opened (base : Nat) (w : World) (s : Nat) (z : Sc) (K : List Int) (d : Nat) (o : Bool) (w' : World) : Prop :=
  ∃ ka kc, SBlk w' s (zopen z K d o ka kc) ∧ KOwn base w' (zopen z K d o ka kc) (opn z.ok K d o).2 ∧ kBlk (zopen z K d o ka kc) ≠ some s ∧
    (kBlk (zopen z K d o ka kc) = kBlk z ∨ ∃ g, kBlk (zopen z K d o ka kc) = some g ∧ w.heap.size ≤ g) ∧ Rest (fun k => k = s ∨ kBlk z = some k) w w'

theorem zopen_low {z : Sc} {K : List Int} {d : Nat} {o : Bool} (hd : d < 64) (hl : K.length = z.kn) : zopen z K d o z.ka z.kc = { z with dep := (d : Int) + 1, ok := setb z.ok (bitOf d) o, deep := deepr z.deep d } := by
  unfold zopen opn; rw [if_pos hd]; simp [hl]
theorem opened_low {base s d : Nat} {o : Bool} {z : Sc} {K : List Int} {w w' : World} (hd : d < 64) (hk : KOwn base w z K) (hne : kBlk z ≠ some s)
    (hb : SBlk w' s { z with dep := (d : Int) + 1, ok := setb z.ok (bitOf d) o, deep := deepr z.deep d }) (hr : Rest (fun k => k = s) w w') : Opened base w s z K d o w' := by
  have e1 : opn z.ok K d o = (setb z.ok (bitOf d) o, K) := by unfold opn; rw [if_pos hd]
  refine ⟨z.ka, z.kc, by rw [zopen_low hd hk.len]; exact hb, ?_, ?_, .inl (kBlk_as rfl), hr.mono fun k _ h => .inl h⟩
  · rw [e1]
    have h2 := hk.rest hr (fun k hk' e => hne (by rw [hk', e]))
    exact h2.as rfl (by rw [zopen_low hd hk.len]) rfl
  · rw [kBlk_as (z' := zopen z K d o z.ka z.kc) (z := z) rfl]; exact hne

theorem opw_length (K : List Int) (d : Nat) : (opw K d).length = if d / 64 - 1 = K.length then K.length + 1 else K.length := by
  unfold opw; split <;> simp
/-- At depth 64 and beyond: the slice is (or has become) z2's, its words opw K d; one word of it is stored into. -/
theorem opened_high {base s d g : Nat} {o : Bool} {z z2 : Sc} {K : List Int} {w w1 w' : World} (hd : ¬ d < 64) (hz2 : z2 = { z with ka := some ⟨g, 0, none⟩, kn := z2.kn, kc := z2.kc }) (hgs : g ≠ s)
    (hg : kBlk z = some g ∨ w.heap.size ≤ g) (hr1 : Rest (fun k => k = s ∨ kBlk z = some k) w w1)
    (hb : SBlk w' s { z2 with dep := (d : Int) + 1, deep := deepr z.deep d }) (hko : KOwn base w' z2 ((opw K d).set (d / 64 - 1) (setb ((opw K d).getD (d / 64 - 1) 0) (bitOf d) o))) (hr : Rest (fun k => k = s ∨ k = g) w1 w') :
    Opened base w s z K d o w' := by
  have e1 : opn z.ok K d o = (z.ok, (opw K d).set (d / 64 - 1) (setb ((opw K d).getD (d / 64 - 1) 0) (bitOf d) o)) := by unfold opn; rw [if_neg hd]
  have e2 : zopen z K d o z2.ka z2.kc = { z2 with dep := (d : Int) + 1, deep := deepr z.deep d } := by
    have hl := hko.len
    unfold zopen; rw [e1, hl, hz2]
  have hka : z2.ka = some ⟨g, 0, none⟩ := by rw [hz2]
  refine ⟨z2.ka, z2.kc, by rw [e2]; exact hb, ?_, ?_, ?_, ?_⟩
  · rw [e1, e2]; exact hko.as rfl rfl rfl
  · rw [kBlk_some (z := zopen z K d o z2.ka z2.kc) hka]; simpa using hgs
  · rw [kBlk_some (z := zopen z K d o z2.ka z2.kc) hka]
    rcases hg with h | h
    · exact .inl h.symm
    · exact .inr ⟨g, rfl, h⟩
  · refine hr1.then hr ?_
    rintro i hi (h | h)
    · exact .inl h
    · rcases hg with h' | h'
      · exact .inr (by rw [h', h])
      · omega

set_option maxHeartbeats 1000000 in
theorem open_low (base s d : Nat) (o : Bool) (z : Sc) (K : List Int) (w : World) (hd : d < 64) (hdep : z.dep = d) (hs : SBlk w s z) (hk : KOwn base w z K) (hne : kBlk z ≠ some s) :
    Calls Try.prog 40 #[.pointer (some ⟨s, 0, none⟩), .bool o] w fun e w' => e = .returned (.tuple #[]) ∧ Opened base w s z K d o w' := by
  have c1 : w.cell? ⟨s, 1, none⟩ = some (.int .i64 d) := by rw [← hdep]; exact blkcell hs 1
  have c2 : w.cell? ⟨s, 2, none⟩ = some (.int .u64 z.ok) := blkcell hs 2
  have c5 : w.cell? ⟨s, 5, none⟩ = some (.int .i64 z.deep) := blkcell hs 5
  have f1 : w.frozen? ⟨s, 1, none⟩ = false := blkfree hs 1
  have f2 : w.frozen? ⟨s, 2, none⟩ = false := blkfree hs 2
  have f5 : w.frozen? ⟨s, 5, none⟩ = false := blkfree hs 5
  have HS : Hid (SBlk w s z) := hs
  have HK : Hid (KOwn base w z K) := hk
  have HN : Hid (kBlk z ≠ some s) := hne
  clear hs hdep hk hne
  cases o
  · go_enter Try.func40, Try.ntmps40
    go_wp2_with (go_at_call 41; refine (kw_low s d _ hd).mono ?_; rintro e w' ⟨rfl, rfl⟩)
    go_region
    all_goals
      go_end0
      exact ⟨rfl, opened_low hd HK.out HN.out (blkset (blkset (blkset HS.out))) (Rest.drew (Rest.set (Rest.set (rest_set1 _ _ _ _) rfl _ _) rfl _ _))⟩
  · go_enter Try.func40, Try.ntmps40
    go_wp2_with (go_at_call 41; refine (kw_low s d _ hd).mono ?_; rintro e w' ⟨rfl, rfl⟩)
    go_region
    all_goals
      go_end0
      exact ⟨rfl, opened_low hd HK.out HN.out (blkset (blkset (blkset (blkset HS.out)))) (Rest.drew (Rest.set (Rest.set (Rest.set (rest_set1 _ _ _ _) rfl _ _) rfl _ _) rfl _ _))⟩

set_option maxHeartbeats 1000000 in
theorem open_mid (base s d : Nat) (o : Bool) (z : Sc) (K : List Int) (w : World) (hd : 64 ≤ d) (hd2 : d ≤ 1000000000) (hn : d / 64 - 1 < z.kn) (hnn : z.kn ≤ 1000000000) (hdep : z.dep = d) (hs : SBlk w s z) (hk : KOwn base w z K) (hne : kBlk z ≠ some s) :
    Calls Try.prog 40 #[.pointer (some ⟨s, 0, none⟩), .bool o] w fun e w' => e = .returned (.tuple #[]) ∧ Opened base w s z K d o w' := by
  obtain ⟨g, hg⟩ := hk.form (by omega)
  have hl := hk.len
  have e0 : opw K d = K := by unfold opw; rw [if_neg (by omega)]
  have hgs : g ≠ s := fun e => hne (by rw [kBlk_some hg, e])
  have hgs' : ¬ s = g := fun e => hgs e.symm
  have c1 : w.cell? ⟨s, 1, none⟩ = some (.int .i64 d) := by rw [← hdep]; exact blkcell hs 1
  have c3 : w.cell? ⟨s, 3, none⟩ = some (.slice (some ⟨g, 0, none⟩) z.kn z.kc) := by rw [← hg]; exact blkcell hs 3
  have c5 : w.cell? ⟨s, 5, none⟩ = some (.int .i64 z.deep) := blkcell hs 5
  have f1 : w.frozen? ⟨s, 1, none⟩ = false := blkfree hs 1
  have f5 : w.frozen? ⟨s, 5, none⟩ = false := blkfree hs 5
  have cg : w.cell? ⟨g, d / 64 - 1, none⟩ = some (.int .u64 (K.getD (d / 64 - 1) 0)) := hk.cell hg hn
  have fg : w.frozen? ⟨g, d / 64 - 1, none⟩ = false := hk.free hg _
  have HOP : Hid (∀ w', SBlk w' s { z with dep := (d : Int) + 1, deep := deepr z.deep d } → KOwn base w' z (K.set (d / 64 - 1) (setb (K.getD (d / 64 - 1) 0) (bitOf d) o)) → Rest (fun k => k = s ∨ k = g) w w' → Opened base w s z K d o w') := by
    intro w' h1 h2 h3
    refine opened_high (z2 := z) (g := g) (w1 := w) (by omega) (by rw [← hg]) hgs (.inl (kBlk_some hg)) (rest_refl _ _) h1 (by rw [e0]; exact h2) h3
  obtain ⟨x, hx⟩ : ∃ x, x = K.getD (d / 64 - 1) 0 := ⟨_, rfl⟩
  rw [← hx] at cg HOP
  obtain ⟨j, hj⟩ : ∃ j, j = d / 64 - 1 := ⟨_, rfl⟩
  have HJ : Hid (j = d / 64 - 1) := hj
  have HS : Hid (SBlk w s z) := hs
  have HK : Hid (KOwn base w z K) := hk
  have HG : Hid (z.ka = some ⟨g, 0, none⟩) := hg
  have HN : Hid (kBlk z ≠ some s) := hne
  clear hs hdep hk hne hx hj hg e0
  cases o
  · go_enter Try.func40, Try.ntmps40
    go_wp2_with (go_at_call 41; refine (kw_mid s d g z.kn z.kc _ hd hd2 hn hnn c3).mono ?_; rintro e w' ⟨rfl, rfl⟩)
    go_region
    all_goals
      go_end0
      exact ⟨rfl, HOP.out _ (blkset (blkset ((heap_setCell_other _ ⟨g, _, none⟩ s _ hgs').trans HS.out))) ((((HK.out.store HG.out _ _).past HN.out _ _).past HN.out _ _)) (Rest.drew (Rest.set (Rest.set (Rest.set (rest_refl _ _) (.inr rfl) _ _) (.inl rfl) _ _) (.inl rfl) _ _))⟩
  · go_enter Try.func40, Try.ntmps40
    go_wp2_with (go_at_call 41; refine (kw_mid s d g z.kn z.kc _ hd hd2 hn hnn c3).mono ?_; rintro e w' ⟨rfl, rfl⟩)
    go_region
    all_goals
      go_end0
      exact ⟨rfl, HOP.out _ (blkset (blkset ((heap_setCell_other _ ⟨g, _, none⟩ s _ hgs').trans ((heap_setCell_other _ ⟨g, _, none⟩ s _ hgs').trans HS.out)))) ((((HK.out.store2 HG.out _ _ _).past HN.out _ _).past HN.out _ _)) (Rest.drew (Rest.set (Rest.set (Rest.set (Rest.set (rest_refl _ _) (.inr rfl) _ _) (.inr rfl) _ _) (.inl rfl) _ _) (.inl rfl) _ _))⟩

set_option maxHeartbeats 1600000 in
theorem open_grow (base s d : Nat) (o : Bool) (z : Sc) (K : List Int) (w : World) (hd : 64 ≤ d) (hd2 : d ≤ 1000000000) (hn : d / 64 - 1 = z.kn) (hdep : z.dep = d) (hs : SBlk w s z) (hk : KOwn base w z K) (hne : kBlk z ≠ some s) (hbase : base ≤ w.heap.size) :
    Calls Try.prog 40 #[.pointer (some ⟨s, 0, none⟩), .bool o] w fun e w' => e = .returned (.tuple #[]) ∧ Opened base w s z K d o w' := by
  have hl := hk.len
  have e0 : opw K d = K ++ [0] := by unfold opw; rw [if_pos (by omega)]
  have c1 : w.cell? ⟨s, 1, none⟩ = some (.int .i64 d) := by rw [← hdep]; exact blkcell hs 1
  have HOP : Hid (∀ g cap w1 w', SBlk w1 s { z with ka := some ⟨g, 0, none⟩, kn := z.kn + 1, kc := cap } → KOwn base w1 { z with ka := some ⟨g, 0, none⟩, kn := z.kn + 1, kc := cap } (K ++ [0]) → g ≠ s → (kBlk z = some g ∨ w.heap.size ≤ g) → Rest (fun k => k = s ∨ kBlk z = some k) w w1 →
      SBlk w' s { z with ka := some ⟨g, 0, none⟩, kn := z.kn + 1, kc := cap, dep := (d : Int) + 1, deep := deepr z.deep d } → KOwn base w' { z with ka := some ⟨g, 0, none⟩, kn := z.kn + 1, kc := cap } ((K ++ [0]).set z.kn (setb 0 (bitOf d) o)) → Rest (fun k => k = s ∨ k = g) w1 w' → Opened base w s z K d o w') := by
    intro g cap w1 w' _ _ a3 a4 a5 h1 h2 h3
    refine opened_high (z2 := { z with ka := some ⟨g, 0, none⟩, kn := z.kn + 1, kc := cap }) (g := g) (w1 := w1) (by omega) rfl a3 a4 a5 h1 ?_ h3
    have e5 : (K ++ [0]).getD z.kn 0 = 0 := by rw [← hl]; simp
    rw [e0, hn, e5]; exact h2
  have HN : Hid (d / 64 - 1 = z.kn) := hn
  have HS : Hid (SBlk w s z) := hs
  have HK : Hid (KOwn base w z K) := hk
  have HNE : Hid (kBlk z ≠ some s) := hne
  have HE : Hid ((K ++ [0]).getD z.kn 0 = 0) := by rw [Hid, ← hl]; simp
  have HD : Hid (z.dep = d) := hdep
  clear hs hdep hk hne e0 hn hl
  cases o
  · go_enter Try.func40, Try.ntmps40
    go_wp2_with fail
    refine (kw_grow base s d z K w hd hd2 HN.out HS.out HK.out HNE.out hbase).mono ?_
    rintro e w1 ⟨g, cap, rfl, hs1, hk1, hgs, hg, hr1⟩
    have hgs' : ¬ s = g := fun e => hgs e.symm
    have c1' : w1.cell? ⟨s, 1, none⟩ = some (.int .i64 d) := by rw [← HD.out]; exact blkcell hs1 1
    have c5' : w1.cell? ⟨s, 5, none⟩ = some (.int .i64 z.deep) := blkcell hs1 5
    have f1 : w1.frozen? ⟨s, 1, none⟩ = false := blkfree hs1 1
    have f5 : w1.frozen? ⟨s, 5, none⟩ = false := blkfree hs1 5
    have cg : w1.cell? ⟨g, z.kn, none⟩ = some (.int .u64 0) := by have := hk1.cell (g := g) rfl (j := z.kn) (Nat.lt_succ_self _); rw [HE.out] at this; exact this
    have fg : w1.frozen? ⟨g, z.kn, none⟩ = false := hk1.free (g := g) rfl _
    have hne2 : kBlk { z with ka := some ⟨g, 0, none⟩, kn := z.kn + 1, kc := cap } ≠ some s := by rw [kBlk_some (g := g) rfl]; simpa using hgs
    have HS1 : Hid (SBlk w1 s { z with ka := some ⟨g, 0, none⟩, kn := z.kn + 1, kc := cap }) := hs1
    have HK1 : Hid (KOwn base w1 { z with ka := some ⟨g, 0, none⟩, kn := z.kn + 1, kc := cap } (K ++ [0])) := hk1
    have HG : Hid (kBlk z = some g ∨ w.heap.size ≤ g) := hg
    have HN2 : Hid (kBlk { z with ka := some ⟨g, 0, none⟩, kn := z.kn + 1, kc := cap } ≠ some s) := hne2
    have HR1 : Hid (Rest (fun k => k = s ∨ kBlk z = some k) w w1) := hr1
    clear hs1 hk1 hg hne2 hr1 c1
    go_wp2
    go_region
    all_goals
      go_end0
      exact ⟨rfl, HOP.out g cap w1 _ HS1.out HK1.out hgs HG.out HR1.out (blkset (blkset ((heap_setCell_other _ ⟨g, _, none⟩ s _ hgs').trans HS1.out))) ((((HK1.out.store (g := g) rfl _ _).past HN2.out _ _).past HN2.out _ _)) (Rest.drew (Rest.set (Rest.set (Rest.set (rest_refl _ _) (.inr rfl) _ _) (.inl rfl) _ _) (.inl rfl) _ _))⟩
  · go_enter Try.func40, Try.ntmps40
    go_wp2_with fail
    refine (kw_grow base s d z K w hd hd2 HN.out HS.out HK.out HNE.out hbase).mono ?_
    rintro e w1 ⟨g, cap, rfl, hs1, hk1, hgs, hg, hr1⟩
    have hgs' : ¬ s = g := fun e => hgs e.symm
    have c1' : w1.cell? ⟨s, 1, none⟩ = some (.int .i64 d) := by rw [← HD.out]; exact blkcell hs1 1
    have c5' : w1.cell? ⟨s, 5, none⟩ = some (.int .i64 z.deep) := blkcell hs1 5
    have f1 : w1.frozen? ⟨s, 1, none⟩ = false := blkfree hs1 1
    have f5 : w1.frozen? ⟨s, 5, none⟩ = false := blkfree hs1 5
    have cg : w1.cell? ⟨g, z.kn, none⟩ = some (.int .u64 0) := by have := hk1.cell (g := g) rfl (j := z.kn) (Nat.lt_succ_self _); rw [HE.out] at this; exact this
    have fg : w1.frozen? ⟨g, z.kn, none⟩ = false := hk1.free (g := g) rfl _
    have hne2 : kBlk { z with ka := some ⟨g, 0, none⟩, kn := z.kn + 1, kc := cap } ≠ some s := by rw [kBlk_some (g := g) rfl]; simpa using hgs
    have HS1 : Hid (SBlk w1 s { z with ka := some ⟨g, 0, none⟩, kn := z.kn + 1, kc := cap }) := hs1
    have HK1 : Hid (KOwn base w1 { z with ka := some ⟨g, 0, none⟩, kn := z.kn + 1, kc := cap } (K ++ [0])) := hk1
    have HG : Hid (kBlk z = some g ∨ w.heap.size ≤ g) := hg
    have HN2 : Hid (kBlk { z with ka := some ⟨g, 0, none⟩, kn := z.kn + 1, kc := cap } ≠ some s) := hne2
    have HR1 : Hid (Rest (fun k => k = s ∨ kBlk z = some k) w w1) := hr1
    clear hs1 hk1 hg hne2 hr1 c1
    go_wp2
    go_region
    all_goals
      go_end0
      exact ⟨rfl, HOP.out g cap w1 _ HS1.out HK1.out hgs HG.out HR1.out (blkset (blkset ((heap_setCell_other _ ⟨g, _, none⟩ s _ hgs').trans ((heap_setCell_other _ ⟨g, _, none⟩ s _ hgs').trans HS1.out)))) ((((HK1.out.store2 (g := g) rfl _ _ _).past HN2.out _ _).past HN2.out _ _)) (Rest.drew (Rest.set (Rest.set (Rest.set (Rest.set (rest_refl _ _) (.inr rfl) _ _) (.inr rfl) _ _) (.inl rfl) _ _) (.inl rfl) _ _))⟩

/-- A depth that the scanner can hold. -/
def Fits (d kn : Nat) : Prop := d < 64 ∨ d / 64 - 1 ≤ kn
theorem open_any (base s d : Nat) (o : Bool) (z : Sc) (K : List Int) (w : World) (hf : Fits d z.kn) (hkn : z.kn ≤ 10000000) (hdep : z.dep = d) (hs : SBlk w s z) (hk : KOwn base w z K) (hne : kBlk z ≠ some s) (hbase : base ≤ w.heap.size) :
    Calls Try.prog 40 #[.pointer (some ⟨s, 0, none⟩), .bool o] w fun e w' => e = .returned (.tuple #[]) ∧ Opened base w s z K d o w' := by
  by_cases h1 : d < 64
  · exact open_low base s d o z K w h1 hdep hs hk hne
  · have h2 : d / 64 - 1 ≤ z.kn := by
      rcases hf with h | h
      · omega
      · exact h
    by_cases h3 : d / 64 - 1 = z.kn
    · exact open_grow base s d o z K w (by omega) (by omega) h3 hdep hs hk hne hbase
    · exact open_mid base s d o z K w (by omega) (by omega) (by omega) (by omega) hdep hs hk hne

end Go.Proofs.Qxb6000752a
