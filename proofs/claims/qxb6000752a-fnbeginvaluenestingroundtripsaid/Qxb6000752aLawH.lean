/-
  The walk of FnBeginValueNestingRoundTrip (10).
-/
import Derived.Test.Qxb6000752aOpn
import Derived.Test.Qxb6000752aZZ2
import Derived.Test.Qxb6000752aBlk
namespace Go.Proofs.Qxb6000752a
open Go.RowKit

/-- The script's k-th byte says: an object. -/
def scr (xs : List Int) (k : Nat) : Bool := bits .and .u8 (xs.getD k 0) 1 == 1
/-- The scanner after k openings. -/
structure Nest (xs : List Int) (at_ : Int) (k : Nat) (z : Sc) (K : List Int) : Prop where
  dep : z.dep = (k : Int)
  deep : z.deep = (k : Int)
  st : 0 < k → z.st = ost (scr xs (k - 1))
  mem : z.mem = if 2 ≤ k then 1 else 0
  ms : z.ms = if 2 ≤ k then at_ else 0
  pl : z.pl = at_
  len : K.length = (k - 1) / 64
  kn : z.kn = (k - 1) / 64
  ok : Word z.ok
  words : ∀ j, Word (K.getD j 0)
  bit : ∀ j, j < k → kbit z.ok K j = scr xs j

def zero (at_ : Int) : Sc := { st := 0, dep := 0, ok := 0, ka := none, kn := 0, kc := 0, mem := 0, deep := 0, name := false, lit := ⟨#[]⟩, ms := 0, pl := at_ }
theorem nest_zero (xs : List Int) (at_ : Int) : Nest xs at_ 0 (zero at_) [] :=
  ⟨rfl, rfl, fun h => by omega, rfl, rfl, rfl, rfl, rfl, word_zero, fun j => by simpa using word_zero, fun j hj => by omega⟩
theorem Nest.fits {xs : List Int} {at_ : Int} {k : Nat} {z : Sc} {K : List Int} (h : Nest xs at_ k z K) : Fits k z.kn := by
  rw [h.kn]; unfold Fits; omega
theorem wrap64_one : wrap64 (0 + 1) = 1 := by unfold wrap64; omega
theorem Nest.next {xs : List Int} {at_ : Int} {k : Nat} {z : Sc} {K : List Int} (h : Nest xs at_ k z K) (ka : Option Addr) (kc : Nat) :
    Nest xs at_ (k + 1) { zopen (pre1 z) K k (scr xs k) ka kc with st := ost (scr xs k) } (opn z.ok K k (scr xs k)).2 := by
  have hf : Fits k K.length := by have := h.fits; rw [h.kn, ← h.len] at this; exact this
  obtain ⟨h1, h2, h3⟩ := opn_spec (o := scr xs k) hf h.ok h.words
  have hlen : (opn z.ok K k (scr xs k)).2.length = (k + 1 - 1) / 64 := by
    rw [opn_length, h.len]
    split
    · omega
    · split <;> omega
  have hpd : (pre1 z).deep = z.deep := by unfold pre1; split <;> rfl
  refine ⟨rfl, ?_, fun _ => rfl, ?_, ?_, ?_, hlen, ?_, ?_, h2, ?_⟩
  · show deepr (pre1 z).deep k = _
    rw [hpd, h.deep]; unfold deepr; rw [if_pos (by omega)]; simp
  · show (pre1 z).mem = _
    by_cases hk : k = 1
    · rw [pre1_one (by rw [h.dep, hk]; rfl)]
      show wrap64 (z.mem + 1) = _
      rw [h.mem, if_neg (by omega), if_pos (by omega)]; exact wrap64_one
    · rw [pre1_not (by rw [h.dep]; omega), h.mem]
      by_cases h2 : 2 ≤ k
      · rw [if_pos h2, if_pos (by omega)]
      · rw [if_neg h2, if_neg (by omega)]
  · show (pre1 z).ms = _
    by_cases hk : k = 1
    · rw [pre1_one (by rw [h.dep, hk]; rfl)]
      show z.pl = _
      rw [h.pl, if_pos (by omega)]
    · rw [pre1_not (by rw [h.dep]; omega), h.ms]
      by_cases h2 : 2 ≤ k
      · rw [if_pos h2, if_pos (by omega)]
      · rw [if_neg h2, if_neg (by omega)]
  · show (pre1 z).pl = _
    rw [← h.pl]; unfold pre1; split <;> rfl
  · show (opn (pre1 z).ok K k (scr xs k)).2.length = _
    rw [pre1_ok]; exact hlen
  · show Word (opn (pre1 z).ok K k (scr xs k)).1
    rw [pre1_ok]; exact h1
  · intro j hj
    show kbit (opn (pre1 z).ok K k (scr xs k)).1 _ j = _
    rw [pre1_ok, h3 j]
    by_cases e : j = k
    · rw [if_pos e, e]
    · rw [if_neg e]; exact h.bit j (by omega)

/-- All of it in memory. -/
def NestM (w0 : World) (xs : List Int) (at_ : Int) (k : Nat) (wr : World) : Prop :=
  ∃ z K, Nest xs at_ k z K ∧ ZBlk wr w0.heap.size z ∧ KOwn w0.heap.size wr z K ∧ kBlk z ≠ some w0.heap.size ∧ Below w0.heap.size w0 wr ∧ w0.heap.size ≤ wr.heap.size

theorem nesting_big (a : Option Addr) (len cap : Nat) (at_ : Int) (w : World) (hle : 65536 < len) :
    Calls Try.prog 10 #[.slice a len cap, .int .i64 at_] w fun e w' => e = .returned (.bool true) ∧ Below w.heap.size w w' := by
  by_cases h : 1048576 < len
  · go_enter Try.func10, Try.ntmps10
    go_wp2
    go_ret
    exact ⟨rfl, Below.refl _ _⟩
  · go_enter Try.func10, Try.ntmps10
    go_wp2
    go_ret
    exact ⟨rfl, Below.refl _ _⟩

set_option maxHeartbeats 1600000 in
theorem nesting_any (a : Option Addr) (len cap b off : Nat) (at_ : Int) (xs : List Int) (w : World) (hle : len ≤ 65536) (hx : xs.length = len) (hrd : Reads .u8 w a b off xs) :
    Calls Try.prog 10 #[.slice a len cap, .int .i64 at_] w fun e w' => e = .returned (.bool true) ∧ Below w.heap.size w w' := by
  have HX : Hid (xs.length = len) := hx
  have HRD : Hid (Reads .u8 w a b off xs) := hrd
  have hM0 : NestM w xs at_ 0 (w.alloc (.cells #[.int .u8 0, .int .i64 0, .int .u64 0, .slice none 0 0, .int .i64 0, .int .i64 0, .bool false, .string ⟨#[]⟩, .int .i64 0, .int .i64 at_] 42)) :=
    ⟨zero at_, [], nest_zero xs at_, heap_alloc_new w _, World.ownsRow_nil _ _ _ _, by simp [kBlk, zero, Value.ownBlock], (Below.refl _ _).alloc (Nat.le_refl _) _, by simp⟩
  have HM0 : Hid _ := hM0
  clear hx hrd hM0
  go_enter Try.func10, Try.ntmps10
  go_wp2
  go_loopw [6] (fun i wr => ∃ (k : Nat), k ≤ len ∧ i = .int .i64 k ∧ NestM w xs at_ k wr) (fun i _ => len - (intOf i).toNat)
  case atStart => exact ⟨0, Nat.zero_le _, rfl, HM0⟩
  case round =>
    obtain ⟨k, hk, rfl, hM⟩ := hrel
    clear HM0
    by_cases hlt : k < len
    · obtain rfl := HRD.out.pos (by rw [HX.out]; omega)
      obtain ⟨z, K, hN, hz, hK, hne, hbel, hsz⟩ := hM
      have hcx : wr.cell? ⟨b, off + k, none⟩ = some (.int .u8 (xs.getD k 0)) := (hbel.cell (by exact HRD.out.lt (by rw [HX.out]; omega))).trans (HRD.out.cell k (by rw [HX.out]; exact hlt))
      have hcall : ∀ c, c = (if scr xs k then 123 else 91) → Calls Try.prog 28 #[.pointer (some ⟨w.heap.size, 0, none⟩), .int .u8 c] wr fun e w' => e = .returned (.int .u8 0) ∧ NestM w xs at_ (k + 1) w' := by
        intro c hc
        refine (zz_open w.heap.size w.heap.size k (scr xs k) c z K wr hc hN.fits (by rw [hN.kn]; omega) hN.dep hz hK hne hsz).mono ?_
        rintro e w' ⟨rfl, ka, kc, h1, h2, h3, h4, h5⟩
        refine ⟨rfl, _, _, hN.next ka kc, h1, h2, h3, hbel.trans (h5.below hsz ?_), Nat.le_trans hsz h5.size⟩
        rintro j (e | e)
        · omega
        · exact (hK.lt j e).1
      have HCALL : Hid (∀ c, c = (if scr xs k then 123 else 91) → Calls Try.prog 28 #[.pointer (some ⟨w.heap.size, 0, none⟩), .int .u8 c] wr fun e w' => e = .returned (.int .u8 0) ∧ NestM w xs at_ (k + 1) w') := hcall
      have hsd : scr xs k = (bits .and .u8 (xs.getD k 0) 1 == 1) := rfl
      obtain ⟨x, hxe⟩ : ∃ x, x = xs.getD k 0 := ⟨_, rfl⟩
      rw [← hxe] at hcx hsd
      clear hcall hN hz hK hne hbel hsz hxe
      cases hb : (bits .and .u8 x 1 == 1)
      · rw [hb] at hsd
        have HSD : Hid (scr xs k = false) := hsd
        clear hsd
        go_wp2_with fail
        refine (HCALL.out 91 (by rw [HSD.out]; rfl)).mono ?_
        rintro e w1 ⟨rfl, hM⟩
        go_wp2
        go_roundw
        case rel => (repeat apply Exists.intro); exact ⟨⟨k + 1, by omega, by go_num, hM⟩, rfl⟩
        case measure => simp [intOf]; omega
      · rw [hb] at hsd
        have HSD : Hid (scr xs k = true) := hsd
        clear hsd
        go_wp2_with fail
        refine (HCALL.out 123 (by rw [HSD.out]; rfl)).mono ?_
        rintro e w1 ⟨rfl, hM⟩
        go_wp2
        go_roundw
        case rel => (repeat apply Exists.intro); exact ⟨⟨k + 1, by omega, by go_num, hM⟩, rfl⟩
        case measure => simp [intOf]; omega
    · obtain rfl : k = len := by omega
      obtain ⟨z, K, hN, hz, hK, hne, hbel, hsz⟩ := hM
      have d1 : wr.cell? ⟨w.heap.size, 1, none⟩ = some (.int .i64 k) := by rw [← hN.dep]; exact blkcell hz 1
      have d5 : wr.cell? ⟨w.heap.size, 5, none⟩ = some (.int .i64 k) := by rw [← hN.deep]; exact blkcell hz 5
      have d2 : wr.cell? ⟨w.heap.size, 2, none⟩ = some (.int .u64 z.ok) := blkcell hz 2
      have d3 : wr.cell? ⟨w.heap.size, 3, none⟩ = some (.slice z.ka z.kn z.kc) := blkcell hz 3
      have d4 : wr.cell? ⟨w.heap.size, 4, none⟩ = some (.int .i64 z.mem) := blkcell hz 4
      have d8 : wr.cell? ⟨w.heap.size, 8, none⟩ = some (.int .i64 z.ms) := blkcell hz 8
      have d0 : wr.cell? ⟨w.heap.size, 0, none⟩ = some (.int .u8 z.st) := blkcell hz 0
      have hkb : ∀ j, j < k → Calls Try.prog 33 #[.int .u64 z.ok, .slice z.ka z.kn z.kc, .int .i64 j] wr fun e w' => e = .returned (.tuple #[.bool (scr xs j), .bool true]) ∧ w' = wr := by
        intro j hj
        have := kindBit_any w.heap.size j z K wr (by rw [hN.kn]; omega) (by rw [hN.kn]; omega) hK hN.ok hN.words
        rw [hN.bit j hj] at this
        exact this
      have HKB : Hid (∀ j, j < k → Calls Try.prog 33 #[.int .u64 z.ok, .slice z.ka z.kn z.kc, .int .i64 j] wr fun e w' => e = .returned (.tuple #[.bool (scr xs j), .bool true]) ∧ w' = wr) := hkb
      have hcells : ∀ j, j < k → wr.cell? ⟨b, off + j, none⟩ = some (.int .u8 (xs.getD j 0)) := fun j hj => (hbel.cell (by exact HRD.out.lt (by rw [HX.out]; omega))).trans (HRD.out.cell j (by rw [HX.out]; exact hj))
      have HCE : Hid (∀ j, j < k → wr.cell? ⟨b, off + j, none⟩ = some (.int .u8 (xs.getD j 0))) := hcells
      have HPO : Hid (0 < k → a = some ⟨b, off, none⟩) := fun h => HRD.out.pos (by rw [HX.out]; exact h)
      have HN : Hid (Nest xs at_ k z K) := hN
      have hkn := hN.kn
      have HKN : Hid (z.kn = (k - 1) / 64) := hkn
      clear hN hz hK hne hkb hcells hkn hsz
      go_wp2
      go_loop [9] (fun i => ∃ (j : Nat), j ≤ k ∧ i = .int .i64 j) (fun i => k - (intOf i).toNat)
      case atStart => exact ⟨0, Nat.zero_le _, rfl⟩
      case round =>
        obtain ⟨j, hj, rfl⟩ := hrel
        by_cases hjk : j < k
        · obtain rfl := HPO.out (by omega)
          have hcx := HCE.out j hjk
          have hsd : scr xs j = (bits .and .u8 (xs.getD j 0) 1 == 1) := rfl
          obtain ⟨x, hxe⟩ : ∃ x, x = xs.getD j 0 := ⟨_, rfl⟩
          rw [← hxe] at hcx hsd
          clear hxe
          go_wp2_with fail
          refine (HKB.out j hjk).mono ?_
          rintro e w1 ⟨rfl, rfl⟩
          rw [hsd]
          clear hsd
          cases hb : (bits .and .u8 x 1 == 1)
          all_goals
            go_wp2
            go_round
            case rel => refine ⟨trivial, ?_⟩; (repeat apply Exists.intro); exact ⟨⟨j + 1, by omega, by go_num⟩, rfl⟩
            case measure => simp [intOf]; omega
        · obtain rfl : j = k := by omega
          have hN := HN.out
          have m1 := hN.mem
          have m2 := hN.ms
          have m3 := hN.st
          have hkn : z.kn = (j - 1) / 64 := HKN.out
          have HKN' : Hid (z.kn = (j - 1) / 64) := hkn
          clear hN HN HKB
          rcases (show j = 0 ∨ j = 1 ∨ 2 ≤ j from by omega) with h0 | h0 | h0
          · subst h0
            rw [if_neg (by omega)] at m1 m2
            rw [m1] at d4
            rw [m2] at d8
            rw [hkn] at d3
            clear m1 m2 m3 hkn
            go_wp2
            go_ret
            exact ⟨rfl, hbel⟩
          · subst h0
            rw [if_neg (by omega)] at m1 m2
            rw [m1] at d4
            rw [m2] at d8
            rw [hkn] at d3
            rw [m3 (by omega)] at d0
            obtain rfl := HPO.out (by omega)
            have hcx : wr.cell? ⟨b, off, none⟩ = some (.int .u8 (xs.getD 0 0)) := HCE.out 0 (by omega)
            have hsd : scr xs (1 - 1) = (bits .and .u8 (xs.getD 0 0) 1 == 1) := rfl
            obtain ⟨x, hxe⟩ : ∃ x, x = xs.getD 0 0 := ⟨_, rfl⟩
            rw [← hxe] at hcx hsd
            rw [hsd] at d0
            clear m1 m2 m3 hkn hxe hsd
            cases hb : (bits .and .u8 x 1 == 1)
            all_goals
              rw [hb] at d0
              simp only [ost, Bool.false_eq_true, if_false, if_true] at d0
              go_wp2
              go_ret
              exact ⟨rfl, hbel⟩
          · rw [if_pos h0] at m1 m2
            rw [m1] at d4
            rw [m2] at d8
            rw [m3 (by omega)] at d0
            obtain rfl := HPO.out (by omega)
            have hcx := HCE.out (j - 1) (by omega)
            have hsd : scr xs (j - 1) = (bits .and .u8 (xs.getD (j - 1) 0) 1 == 1) := rfl
            obtain ⟨x, hxe⟩ : ∃ x, x = xs.getD (j - 1) 0 := ⟨_, rfl⟩
            rw [← hxe] at hcx hsd
            rw [hsd] at d0
            have hw : ((z.kn : Int) != ((j : Int) - 1) / 64) = false := by
              rw [hkn]; simp; omega
            clear m1 m2 m3 hkn hxe hsd
            cases hb : (bits .and .u8 x 1 == 1)
            all_goals
              rw [hb] at d0
              simp only [ost, Bool.false_eq_true, if_false, if_true] at d0
              go_wp2
              go_ret
              exact ⟨rfl, hbel⟩

end Go.Proofs.Qxb6000752a
