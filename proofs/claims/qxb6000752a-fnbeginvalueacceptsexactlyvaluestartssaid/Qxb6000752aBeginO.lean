/-
  The walk of beginValue (37) at a bracket.
-/
import Derived.Test.Qxb6000752aBegin
namespace Go.Proofs.Qxb6000752a
open Go.RowKit

/-- The state behind a bracket. -/
def ost (o : Bool) : Int := if o then 2 else 1
/-- What beginValue at a bracket leaves. -/
def BOpen (base : Nat) (w : World) (s : Nat) (z : Sc) (K : List Int) (d : Nat) (o : Bool) (w' : World) : Prop :=
  ∃ ka kc, SBlk w' s { zopen (pre1 z) K d o ka kc with st := ost o } ∧ KOwn base w' { zopen (pre1 z) K d o ka kc with st := ost o } (opn z.ok K d o).2 ∧ kBlk { zopen (pre1 z) K d o ka kc with st := ost o } ≠ some s ∧
    (kBlk { zopen (pre1 z) K d o ka kc with st := ost o } = kBlk z ∨ ∃ g, kBlk { zopen (pre1 z) K d o ka kc with st := ost o } = some g ∧ w.heap.size ≤ g) ∧ Rest (fun k => k = s ∨ kBlk z = some k) w w'

theorem pre1_ok (z : Sc) : (pre1 z).ok = z.ok := by unfold pre1; split <;> rfl
theorem bopen_of {base : Nat} {w w1 w2 : World} {s : Nat} {z : Sc} {K : List Int} {d : Nat} {o : Bool} (hr : Rest (fun k => k = s) w w1) (h : Opened base w1 s (pre1 z) K d o w2) (v : Value) (hv : v = .int .u8 (ost o)) :
    BOpen base w s z K d o (w2.setCell ⟨s, 0, none⟩ v) := by
  obtain ⟨ka, kc, h1, h2, h3, h4, h5⟩ := h
  subst hv
  have hkb : kBlk (pre1 z) = kBlk z := kBlk_as (pre1_ka z)
  rw [hkb] at h4 h5
  rw [pre1_ok] at h2
  refine ⟨ka, kc, blkset h1, (h2.as rfl rfl rfl).past h3 _ _, h3, ?_, ?_⟩
  · rcases h4 with h4 | ⟨g, h4, hg⟩
    · exact .inl h4
    · exact .inr ⟨g, h4, Nat.le_trans hr.size hg⟩
  · exact Rest.set ((hr.mono fun k _ h => .inl h).trans h5) (.inl rfl) _ _

set_option maxHeartbeats 1600000 in
theorem begin_open_one (base s d : Nat) (o : Bool) (c : Int) (z : Sc) (K : List Int) (w : World) (hc : c = if o then 123 else 91) (hf : Fits d z.kn) (hkn : z.kn ≤ 10000000) (hdep : z.dep = d) (hd : z.dep = 1) (hs : SBlk w s z) (hk : KOwn base w z K) (hne : kBlk z ≠ some s) (hbase : base ≤ w.heap.size) :
    Calls Try.prog 37 #[.pointer (some ⟨s, 0, none⟩), .int .u8 c] w fun e w' => e = .returned (.int .u8 0) ∧ BOpen base w s z K d o w' := by
  have c1 : w.cell? ⟨s, 1, none⟩ = some (.int .i64 1) := by rw [← hd]; exact blkcell hs 1
  have c4 : w.cell? ⟨s, 4, none⟩ = some (.int .i64 z.mem) := blkcell hs 4
  have c13 : w.cell? ⟨s, 13, none⟩ = some (.int .i64 z.ms) := blkcell hs 13
  have c16 : w.cell? ⟨s, 16, none⟩ = some (.int .i64 z.pl) := blkcell hs 16
  have f4 : w.frozen? ⟨s, 4, none⟩ = false := blkfree hs 4
  have f13 : w.frozen? ⟨s, 13, none⟩ = false := blkfree hs 13
  have hp := pre1_one hd
  have HC : Hid (∀ o', o' = o → Calls Try.prog 40 #[.pointer (some ⟨s, 0, none⟩), .bool o'] ((w.setCell ⟨s, 4, none⟩ (.int .i64 (wrap64 (z.mem + 1)))).setCell ⟨s, 13, none⟩ (.int .i64 z.pl)) fun e w' => e = .returned (.tuple #[]) ∧ Opened base ((w.setCell ⟨s, 4, none⟩ (.int .i64 (wrap64 (z.mem + 1)))).setCell ⟨s, 13, none⟩ (.int .i64 z.pl)) s (pre1 z) K d o w') := by
    intro o' ho
    subst ho
    refine open_any base s d o' (pre1 z) K _ (by rw [pre1_kn]; exact hf) (by rw [pre1_kn]; exact hkn) (by rw [pre1_dep]; exact hdep) ?_ ?_ (by rw [kBlk_as (pre1_ka z)]; exact hne) (by simpa using hbase)
    · rw [hp]; exact blkset (blkset hs)
    · exact ((hk.past hne _ _).past hne _ _).as (pre1_ka z) (pre1_kn z) (pre1_kc z)
  have HR : Hid (Rest (fun k => k = s) w ((w.setCell ⟨s, 4, none⟩ (.int .i64 (wrap64 (z.mem + 1)))).setCell ⟨s, 13, none⟩ (.int .i64 z.pl))) := Rest.set (rest_set1 _ _ _ _) rfl _ _
  clear hs hk hne hbase hf hkn hdep hd hp
  cases o
  · obtain rfl : c = 91 := hc
    go_enter Try.func37, Try.ntmps37
    go_wp2_with fail
    refine (HC.out false rfl).mono ?_
    rintro e w2 ⟨rfl, ho⟩
    have c0 : ∃ v, w2.cell? ⟨s, 0, none⟩ = some (.int .u8 v) := by
      obtain ⟨ka, kc, h1, _⟩ := ho
      exact ⟨_, blkcell h1 0⟩
    obtain ⟨v0, c0⟩ := c0
    have f0 : w2.frozen? ⟨s, 0, none⟩ = false := by
      obtain ⟨ka, kc, h1, _⟩ := ho
      exact blkfree h1 0
    have HO : Hid (Opened base _ s (pre1 z) K d false w2) := ho
    clear ho
    go_wp2
    go_ret
    exact ⟨rfl, bopen_of HR.out HO.out _ rfl⟩
  · obtain rfl : c = 123 := hc
    go_enter Try.func37, Try.ntmps37
    go_wp2_with fail
    refine (HC.out true rfl).mono ?_
    rintro e w2 ⟨rfl, ho⟩
    have c0 : ∃ v, w2.cell? ⟨s, 0, none⟩ = some (.int .u8 v) := by
      obtain ⟨ka, kc, h1, _⟩ := ho
      exact ⟨_, blkcell h1 0⟩
    obtain ⟨v0, c0⟩ := c0
    have f0 : w2.frozen? ⟨s, 0, none⟩ = false := by
      obtain ⟨ka, kc, h1, _⟩ := ho
      exact blkfree h1 0
    have HO : Hid (Opened base _ s (pre1 z) K d true w2) := ho
    clear ho
    go_wp2
    go_ret
    exact ⟨rfl, bopen_of HR.out HO.out _ rfl⟩

set_option maxHeartbeats 1600000 in
theorem begin_open_not (base s d : Nat) (o : Bool) (c : Int) (z : Sc) (K : List Int) (w : World) (hc : c = if o then 123 else 91) (hf : Fits d z.kn) (hkn : z.kn ≤ 10000000) (hdep : z.dep = d) (hd : ¬ z.dep = 1) (hs : SBlk w s z) (hk : KOwn base w z K) (hne : kBlk z ≠ some s) (hbase : base ≤ w.heap.size) :
    Calls Try.prog 37 #[.pointer (some ⟨s, 0, none⟩), .int .u8 c] w fun e w' => e = .returned (.int .u8 0) ∧ BOpen base w s z K d o w' := by
  have c1 : w.cell? ⟨s, 1, none⟩ = some (.int .i64 z.dep) := blkcell hs 1
  have c4 : w.cell? ⟨s, 4, none⟩ = some (.int .i64 z.mem) := blkcell hs 4
  have c13 : w.cell? ⟨s, 13, none⟩ = some (.int .i64 z.ms) := blkcell hs 13
  have c16 : w.cell? ⟨s, 16, none⟩ = some (.int .i64 z.pl) := blkcell hs 16
  have f4 : w.frozen? ⟨s, 4, none⟩ = false := blkfree hs 4
  have f13 : w.frozen? ⟨s, 13, none⟩ = false := blkfree hs 13
  have hp := pre1_not hd
  have HC : Hid (∀ o', o' = o → Calls Try.prog 40 #[.pointer (some ⟨s, 0, none⟩), .bool o'] w fun e w' => e = .returned (.tuple #[]) ∧ Opened base w s (pre1 z) K d o w') := by
    intro o' ho
    subst ho
    refine open_any base s d o' (pre1 z) K _ (by rw [pre1_kn]; exact hf) (by rw [pre1_kn]; exact hkn) (by rw [pre1_dep]; exact hdep) ?_ ?_ (by rw [kBlk_as (pre1_ka z)]; exact hne) (by simpa using hbase)
    · rw [hp]; exact hs
    · exact hk.as (pre1_ka z) (pre1_kn z) (pre1_kc z)
  have HR : Hid (Rest (fun k => k = s) w w) := rest_refl _ _
  have hdb : (z.dep == 1) = false := by simpa using hd
  clear hs hk hne hbase hf hkn hdep hd hp
  cases o
  · obtain rfl : c = 91 := hc
    go_enter Try.func37, Try.ntmps37
    go_wp2_with fail
    refine (HC.out false rfl).mono ?_
    rintro e w2 ⟨rfl, ho⟩
    have c0 : ∃ v, w2.cell? ⟨s, 0, none⟩ = some (.int .u8 v) := by
      obtain ⟨ka, kc, h1, _⟩ := ho
      exact ⟨_, blkcell h1 0⟩
    obtain ⟨v0, c0⟩ := c0
    have f0 : w2.frozen? ⟨s, 0, none⟩ = false := by
      obtain ⟨ka, kc, h1, _⟩ := ho
      exact blkfree h1 0
    have HO : Hid (Opened base _ s (pre1 z) K d false w2) := ho
    clear ho
    go_wp2
    go_ret
    exact ⟨rfl, bopen_of HR.out HO.out _ rfl⟩
  · obtain rfl : c = 123 := hc
    go_enter Try.func37, Try.ntmps37
    go_wp2_with fail
    refine (HC.out true rfl).mono ?_
    rintro e w2 ⟨rfl, ho⟩
    have c0 : ∃ v, w2.cell? ⟨s, 0, none⟩ = some (.int .u8 v) := by
      obtain ⟨ka, kc, h1, _⟩ := ho
      exact ⟨_, blkcell h1 0⟩
    obtain ⟨v0, c0⟩ := c0
    have f0 : w2.frozen? ⟨s, 0, none⟩ = false := by
      obtain ⟨ka, kc, h1, _⟩ := ho
      exact blkfree h1 0
    have HO : Hid (Opened base _ s (pre1 z) K d true w2) := ho
    clear ho
    go_wp2
    go_ret
    exact ⟨rfl, bopen_of HR.out HO.out _ rfl⟩

theorem begin_open (base s d : Nat) (o : Bool) (c : Int) (z : Sc) (K : List Int) (w : World) (hc : c = if o then 123 else 91) (hf : Fits d z.kn) (hkn : z.kn ≤ 10000000) (hdep : z.dep = d) (hs : SBlk w s z) (hk : KOwn base w z K) (hne : kBlk z ≠ some s) (hbase : base ≤ w.heap.size) :
    Calls Try.prog 37 #[.pointer (some ⟨s, 0, none⟩), .int .u8 c] w fun e w' => e = .returned (.int .u8 0) ∧ BOpen base w s z K d o w' := by
  by_cases hd : z.dep = 1
  · exact begin_open_one base s d o c z K w hc hf hkn hdep hd hs hk hne hbase
  · exact begin_open_not base s d o c z K w hc hf hkn hdep hd hs hk hne hbase

end Go.Proofs.Qxb6000752a
