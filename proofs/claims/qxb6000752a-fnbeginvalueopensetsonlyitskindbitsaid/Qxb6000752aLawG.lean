/-
  The walk of FnBeginValueOpenSetsOnlyItsKindBit (9).
-/
import Derived.Test.Qxb6000752aLaid
import Derived.Deep.QuietTactic
import Derived.BigQuiet
namespace Go.Proofs.Qxb6000752a
open Go.RowKit

theorem deepr_maxi (x : Int) (d : Nat) : deepr x d = maxi x ((d : Int) + 1) := by
  unfold deepr maxi; split <;> split <;> omega

/-- The scanner that the law lays. -/
def zlaid (d : Nat) (ok : Int) (ka : Option Addr) (n : Nat) (deep : Int) : Sc :=
  { st := 0, dep := d, ok := ok, ka := ka, kn := n, kc := n, mem := 0, deep := deep, name := false, lit := ⟨#[]⟩, ms := 0, pl := 0 }

/-- What the law reads behind the call, told once. -/
structure GAft (w w4 : World) (zb : Nat) (a1 : Option Addr) (xs : List Int) (d : Nat) (ok deep : Int) (o : Bool) (ka : Option Addr) (kc : Nat) (ok' : Int) (K' : List Int) : Prop where
  c0 : w4.cell? ⟨zb, 0, none⟩ = some (.int .u8 (ost o))
  c1 : w4.cell? ⟨zb, 1, none⟩ = some (.int .i64 ((d : Int) + 1))
  c2 : w4.cell? ⟨zb, 2, none⟩ = some (.int .u64 ok')
  c3 : w4.cell? ⟨zb, 3, none⟩ = some (.slice ka K'.length kc)
  c5 : w4.cell? ⟨zb, 5, none⟩ = some (.int .i64 (deepr deep d))
  kb : ∀ n, Calls Try.prog 33 #[.int .u64 ok', .slice ka K'.length kc, .int .i64 d] (w4.drewN n) fun e w' => e = .returned (.tuple #[.bool o, .bool true]) ∧ w' = w4.drewN n
  outer : bits .andNot .u64 (bits .xor .u64 ok' ok) (if d < 64 then bitOf d else 0) = 0
  len : K'.length = if d < 64 then xs.length else if d / 64 - 1 = xs.length then xs.length + 1 else xs.length
  word : ∀ j, bits .andNot .u64 (bits .xor .u64 (K'.getD j 0) (xs.getD j 0)) (if 64 ≤ d ∧ j = d / 64 - 1 then bitOf d else 0) = 0
  cell : ∀ j, j < K'.length → ∃ g, ka = some ⟨g, 0, none⟩ ∧ w4.cell? ⟨g, j, none⟩ = some (.int .u64 (K'.getD j 0))
  old : Reads .u64 w4 a1 w.heap.size 0 xs
  bel : Below w.heap.size w w4

theorem gaft {w w4 : World} {zb : Nat} {a1 a2 : Option Addr} {xs : List Int} {d : Nat} {ok deep : Int} {o : Bool} {ka : Option Addr} {kc : Nat} (hf : Fits d xs.length) (hlen : xs.length ≤ 1000000) (hok : Word ok) (hK : ∀ j, Word (xs.getD j 0))
    (hz : ZBlk w4 zb { zopen (pre1 (zlaid d ok a2 xs.length deep)) xs d o ka kc with st := ost o }) (hk : KOwn w.heap.size w4 { zopen (pre1 (zlaid d ok a2 xs.length deep)) xs d o ka kc with st := ost o } (opn ok xs d o).2)
    (hr : Reads .u64 w4 a1 w.heap.size 0 xs) (hb : Below w.heap.size w w4) : GAft w w4 zb a1 xs d ok deep o ka kc (opn ok xs d o).1 (opn ok xs d o).2 := by
  have e1 : (pre1 (zlaid d ok a2 xs.length deep)).ok = ok := pre1_ok _
  have e2 : (pre1 (zlaid d ok a2 xs.length deep)).deep = deep := by unfold pre1; split <;> rfl
  obtain ⟨s1, s2, s3⟩ := opn_spec (o := o) hf hok hK
  have hzz : { zopen (pre1 (zlaid d ok a2 xs.length deep)) xs d o ka kc with st := ost o } = { (pre1 (zlaid d ok a2 xs.length deep)) with dep := (d : Int) + 1, ok := (opn ok xs d o).1, ka := ka, kn := (opn ok xs d o).2.length, kc := kc, deep := deepr deep d, st := ost o } := by
    unfold zopen; rw [e1, e2]
  rw [hzz] at hz hk
  have hll := opn_length (ok := ok) (K := xs) (d := d) (o := o)
  refine ⟨blkcell hz 0, blkcell hz 1, blkcell hz 2, blkcell hz 3, blkcell hz 5, ?_, ?_, hll, ?_, ?_, hr, hb⟩
  · intro n
    have hfit : d < 64 ∨ d / 64 - 1 < (opn ok xs d o).2.length := by
      by_cases h : d < 64
      · exact .inl h
      · right
        rw [hll, if_neg h]
        have : d / 64 - 1 ≤ xs.length := by
          rcases hf with h' | h'
          · omega
          · exact h'
        split <;> omega
    have hl2 : (opn ok xs d o).2.length ≤ 10000000 := by rw [hll]; split <;> (try split) <;> omega
    have := kindBit_any w.heap.size d _ _ (w4.drewN n) hfit hl2 hk s1 s2
    rw [show kbit (opn ok xs d o).1 (opn ok xs d o).2 d = o from by rw [s3 d, if_pos rfl]] at this
    exact this
  · by_cases h : d < 64
    · rw [if_pos h, opn_low h]; exact only_bit ok d o hok
    · rw [if_neg h, opn_high h]; exact same_word ok hok 0 word_zero
  · intro j
    by_cases h : d < 64
    · rw [if_neg (by omega), opn_low h]; exact same_word _ (hK j) 0 word_zero
    · have hf' : d / 64 - 1 ≤ xs.length := by
        rcases hf with h' | h'
        · omega
        · exact h'
      rw [opn_high h]
      show bits .andNot .u64 (bits .xor .u64 (((opw xs d).set (d / 64 - 1) (setb (xs.getD (d / 64 - 1) 0) (bitOf d) o)).getD j 0) (xs.getD j 0)) _ = 0
      rw [getD_set _ _ _ _ (opw_lt hf'), opw_getD]
      by_cases e : j = d / 64 - 1
      · rw [if_pos e, if_pos ⟨by omega, e⟩, ← e]; exact only_bit _ d o (hK j)
      · rw [if_neg e, if_neg (fun h => e h.2)]; exact same_word _ (hK j) 0 word_zero
  · intro j hj
    obtain ⟨g, hg⟩ := hk.form (show 0 < (opn ok xs d o).2.length by omega)
    exact ⟨g, hg, hk.cell hg hj⟩

theorem bitOf_wrap (d : Nat) : IntKind.u64.wrap (2 ^ (d % 64)) = bitOf d := rfl
theorem bitOf_small {d : Nat} (h : d < 64) : IntKind.u64.wrap (2 ^ d) = bitOf d := by unfold bitOf; rw [Nat.mod_eq_of_lt h]
theorem ne_zero_false {x : Int} (h : x = 0) : (x != 0) = false := by simp [h]

set_option maxHeartbeats 2000000 in
set_option maxRecDepth 100000 in
theorem openSets_low_false (a : Option Addr) (len cap b off d : Nat) (ok deep : Int) (xs : List Int) (w : World) (hx : xs.length = len) (hlen : len ≤ 131072) (hd : d < 64) (hok : Word ok) (hK : ∀ j, Word (xs.getD j 0))
    (hnil : a = none → len = 0 ∧ cap = 0) (hrd : Reads .u64 w a b off xs) :
    Calls Try.prog 9 #[.int .i64 d, .int .u64 ok, .slice a len cap, .int .i64 deep, .bool false] w fun e w' => e = .returned (.bool true) ∧ Below w.heap.size w w' := by
  have hf : Fits d len := by unfold Fits; omega
  have hd2 : d ≤ 100000000 := by omega
  have HX : Hid (xs.length = len) := hx
  have HF : Hid (Fits d len) := hf
  have HOK : Hid (Word ok) := hok
  have HK : Hid (∀ j, Word (xs.getD j 0)) := hK
  have HNIL : Hid (a = none → len = 0 ∧ cap = 0) := hnil
  have HRD : Hid (Reads .u64 w a b off xs) := hrd
  clear hx hok hK hnil hrd hf
  go_enter Try.func9, Try.ntmps9
  go_wp2_with (go_at_call 31; go_in)
  refine (cloneWords_gen a len cap b off w.heap.size xs _ HX.out (by omega) HNIL.out HRD.out (Nat.le_refl _)).mono ?_
  rintro e w1 ⟨a1, rfl, hc1⟩
  have hz1 := hc1.below.size
  have HC1 : Hid (Cloned w w1 a1 w.heap.size xs) := hc1
  clear hc1 HRD HNIL
  go_wp2_with fail
  refine (cloneWords_gen a1 len len w.heap.size 0 w.heap.size xs _ HX.out (by omega) (fun h => ?hn) HC1.out.reads hz1).mono ?_
  case hn =>
    have h2 := HC1.out.owns
    rw [h, HX.out] at h2
    rcases h2.2 with ⟨h3, _⟩ | ⟨g, cap', cur, h3, _⟩
    · simp only [Value.slice.injEq] at h3; exact ⟨h3.2.1, h3.2.2⟩
    · simp at h3
  rintro e w2 ⟨a2, rfl, hc2⟩
  have hz2 := hc2.below.size
  have HC2 : Hid (Cloned w1 w2 a2 w.heap.size xs) := hc2
  clear hc2
  go_wp2_with fail
  have hcall := laid_open w w1 w2 a1 a2 xs HC1.out HC2.out (zlaid d ok a2 len deep) rfl HX.out.symm HX.out.symm d false 91 rfl (by rw [HX.out]; exact HF.out) (by rw [HX.out]; omega) rfl
  refine hcall.mono ?_
  clear hcall HC2
  rintro e w4 ⟨rfl, ka, kc, hz4, hk4, hr4, hbel⟩
  have hG : GAft w w4 w2.heap.size a1 xs d ok deep false ka kc (opn ok xs d false).1 (opn ok xs d false).2 :=
    gaft (a2 := a2) (by rw [HX.out]; exact HF.out) (by rw [HX.out]; omega) HOK.out HK.out (by rw [HX.out]; exact hz4) (by rw [HX.out]; exact hk4) hr4 hbel
  clear hz4 hk4 hr4 hbel HC1
  obtain ⟨ok', hok'⟩ : ∃ ok', ok' = (opn ok xs d false).1 := ⟨_, rfl⟩
  obtain ⟨K', hK'⟩ : ∃ K', K' = (opn ok xs d false).2 := ⟨_, rfl⟩
  rw [← hok', ← hK'] at hG
  clear hok' hK'
  obtain ⟨c0, c1, c2, c3, c5, kb, outer, hl, word, cell, old, bel⟩ := hG
  rw [if_pos hd] at outer
  rw [if_pos hd, HX.out] at hl
  rw [← bitOf_small hd] at outer
  have htw : ((-1 : Int) == (len : Int)) = false := by simp
  have hout := ne_zero_false outer
  replace c0 : w4.cell? ⟨w2.heap.size, 0, none⟩ = some (.int .u8 1) := c0
  rw [deepr_maxi] at c5
  have KB : Hid (∀ n, Calls Try.prog 33 #[.int .u64 ok', .slice ka K'.length kc, .int .i64 d] (w4.drewN n) fun e w' => e = .returned (.tuple #[.bool false, .bool true]) ∧ w' = w4.drewN n) := kb
  have HW : Hid (∀ j, bits .andNot .u64 (bits .xor .u64 (K'.getD j 0) (xs.getD j 0)) (if 64 ≤ d ∧ j = d / 64 - 1 then bitOf d else 0) = 0) := word
  have HCE : Hid (∀ j, j < K'.length → ∃ g, ka = some ⟨g, 0, none⟩ ∧ w4.cell? ⟨g, j, none⟩ = some (.int .u64 (K'.getD j 0))) := cell
  have HOLD : Hid (Reads .u64 w4 a1 w.heap.size 0 xs) := old
  have hb1 : ((d : Int) + 1 != (d : Int) + 1) = false := by simp
  have hb2 : (maxi deep ((d : Int) + 1) != maxi deep ((d : Int) + 1)) = false := by simp
  rw [hl] at c3 KB HCE
  clear kb outer word cell old hl
  go_wp2_with fail
  go_quiet ((go_at_call 32; exact Calls.quiet_of_same (maxInt_any _ _ _)))
  go_wp2_with fail
  refine (KB.out _).mono ?_
  rintro e w5 ⟨rfl, rfl⟩
  clear KB c0 c1 c5 hb1 hb2 hz1 hz2
  go_wp2
  go_loop [18] (fun i => ∃ (j : Nat), j ≤ len ∧ i = .int .i64 j) (fun i => len - (intOf i).toNat)
  case atStart => exact ⟨0, Nat.zero_le _, rfl⟩
  case round =>
    obtain ⟨j, hj, rfl⟩ := hrel
    by_cases hjl : j < len
    · have hjt : ((j : Int) == -1) = false := by simp
      obtain ⟨g, hka, hcg⟩ := HCE.out j (by omega)
      have hw := HW.out j
      have ho := HOLD.out.cell j (by rw [HX.out]; omega)
      have hp := HOLD.out.pos (by rw [HX.out]; omega)
      rw [Nat.zero_add] at ho
      rw [hp]
      clear hp
      rw [if_neg (by omega)] at hw
      have hw' := ne_zero_false hw
      obtain ⟨y, hy⟩ : ∃ y, y = K'.getD j 0 := ⟨_, rfl⟩
      rw [← hy] at hw' hcg
      obtain ⟨x, hxe⟩ : ∃ x, x = xs.getD j 0 := ⟨_, rfl⟩
      rw [← hxe] at hw' ho
      clear hxe
      rw [hka] at c3
      clear hw hy hka
      go_wp2
      go_round
      case rel => exact ⟨j + 1, by omega, by go_num⟩
      case measure => simp [intOf]; omega
    · obtain rfl : j = len := by omega
      go_wp2
      go_ret
      exact ⟨rfl, bel.trans (below_drewN _ _ _)⟩

set_option maxHeartbeats 2000000 in
set_option maxRecDepth 100000 in
theorem openSets_mid_false (a : Option Addr) (len cap b off d : Nat) (ok deep : Int) (xs : List Int) (w : World) (hx : xs.length = len) (hlen : len ≤ 131072) (hd : 64 ≤ d) (hdl : d / 64 - 1 < len) (hok : Word ok) (hK : ∀ j, Word (xs.getD j 0))
    (hnil : a = none → len = 0 ∧ cap = 0) (hrd : Reads .u64 w a b off xs) :
    Calls Try.prog 9 #[.int .i64 d, .int .u64 ok, .slice a len cap, .int .i64 deep, .bool false] w fun e w' => e = .returned (.bool true) ∧ Below w.heap.size w w' := by
  have hf : Fits d len := by unfold Fits; omega
  have hd2 : d ≤ 100000000 := by omega
  have HX : Hid (xs.length = len) := hx
  have HF : Hid (Fits d len) := hf
  have HOK : Hid (Word ok) := hok
  have HK : Hid (∀ j, Word (xs.getD j 0)) := hK
  have HNIL : Hid (a = none → len = 0 ∧ cap = 0) := hnil
  have HRD : Hid (Reads .u64 w a b off xs) := hrd
  have hdi : ((d : Int) / 64 - 1 == (len : Int)) = false := by simp; omega
  clear hx hok hK hnil hrd hf
  go_enter Try.func9, Try.ntmps9
  go_wp2_with (go_at_call 31; go_in)
  refine (cloneWords_gen a len cap b off w.heap.size xs _ HX.out (by omega) HNIL.out HRD.out (Nat.le_refl _)).mono ?_
  rintro e w1 ⟨a1, rfl, hc1⟩
  have hz1 := hc1.below.size
  have HC1 : Hid (Cloned w w1 a1 w.heap.size xs) := hc1
  clear hc1 HRD HNIL
  go_wp2_with fail
  refine (cloneWords_gen a1 len len w.heap.size 0 w.heap.size xs _ HX.out (by omega) (fun h => ?hn) HC1.out.reads hz1).mono ?_
  case hn =>
    have h2 := HC1.out.owns
    rw [h, HX.out] at h2
    rcases h2.2 with ⟨h3, _⟩ | ⟨g, cap', cur, h3, _⟩
    · simp only [Value.slice.injEq] at h3; exact ⟨h3.2.1, h3.2.2⟩
    · simp at h3
  rintro e w2 ⟨a2, rfl, hc2⟩
  have hz2 := hc2.below.size
  have HC2 : Hid (Cloned w1 w2 a2 w.heap.size xs) := hc2
  clear hc2
  go_wp2_with fail
  have hcall := laid_open w w1 w2 a1 a2 xs HC1.out HC2.out (zlaid d ok a2 len deep) rfl HX.out.symm HX.out.symm d false 91 rfl (by rw [HX.out]; exact HF.out) (by rw [HX.out]; omega) rfl
  refine hcall.mono ?_
  clear hcall HC2
  rintro e w4 ⟨rfl, ka, kc, hz4, hk4, hr4, hbel⟩
  have hG : GAft w w4 w2.heap.size a1 xs d ok deep false ka kc (opn ok xs d false).1 (opn ok xs d false).2 :=
    gaft (a2 := a2) (by rw [HX.out]; exact HF.out) (by rw [HX.out]; omega) HOK.out HK.out (by rw [HX.out]; exact hz4) (by rw [HX.out]; exact hk4) hr4 hbel
  clear hz4 hk4 hr4 hbel HC1
  obtain ⟨ok', hok'⟩ : ∃ ok', ok' = (opn ok xs d false).1 := ⟨_, rfl⟩
  obtain ⟨K', hK'⟩ : ∃ K', K' = (opn ok xs d false).2 := ⟨_, rfl⟩
  rw [← hok', ← hK'] at hG
  clear hok' hK'
  obtain ⟨c0, c1, c2, c3, c5, kb, outer, hl, word, cell, old, bel⟩ := hG
  rw [if_neg (by omega)] at outer
  rw [if_neg (by omega), HX.out, if_neg (by omega)] at hl
  have hout := ne_zero_false outer
  replace c0 : w4.cell? ⟨w2.heap.size, 0, none⟩ = some (.int .u8 1) := c0
  rw [deepr_maxi] at c5
  have KB : Hid (∀ n, Calls Try.prog 33 #[.int .u64 ok', .slice ka K'.length kc, .int .i64 d] (w4.drewN n) fun e w' => e = .returned (.tuple #[.bool false, .bool true]) ∧ w' = w4.drewN n) := kb
  have HW : Hid (∀ j, bits .andNot .u64 (bits .xor .u64 (K'.getD j 0) (xs.getD j 0)) (if 64 ≤ d ∧ j = d / 64 - 1 then bitOf d else 0) = 0) := word
  have HCE : Hid (∀ j, j < K'.length → ∃ g, ka = some ⟨g, 0, none⟩ ∧ w4.cell? ⟨g, j, none⟩ = some (.int .u64 (K'.getD j 0))) := cell
  have HOLD : Hid (Reads .u64 w4 a1 w.heap.size 0 xs) := old
  have hb1 : ((d : Int) + 1 != (d : Int) + 1) = false := by simp
  have hb2 : (maxi deep ((d : Int) + 1) != maxi deep ((d : Int) + 1)) = false := by simp
  rw [hl] at c3 KB HCE
  clear kb outer word cell old hl
  go_wp2_with fail
  go_quiet ((go_at_call 32; exact Calls.quiet_of_same (maxInt_any _ _ _)))
  go_wp2_with fail
  refine (KB.out _).mono ?_
  rintro e w5 ⟨rfl, rfl⟩
  clear KB c0 c1 c5 hb1 hb2 hz1 hz2
  go_wp2
  go_loop [18] (fun i => ∃ (j : Nat), j ≤ len ∧ i = .int .i64 j) (fun i => len - (intOf i).toNat)
  case atStart => exact ⟨0, Nat.zero_le _, rfl⟩
  case round =>
    obtain ⟨j, hj, rfl⟩ := hrel
    by_cases hjl : j < len
    · by_cases hjt : j = d / 64 - 1
      · have HJT : Hid (j = d / 64 - 1) := hjt
        have hjb : ((j : Int) == (d : Int) / 64 - 1) = true := by simp; omega
        obtain ⟨g, hka, hcg⟩ := HCE.out j (by omega)
        have hw := HW.out j
        have ho := HOLD.out.cell j (by rw [HX.out]; omega)
        have hp := HOLD.out.pos (by rw [HX.out]; omega)
        rw [Nat.zero_add] at ho
        rw [hp]
        clear hp
        clear hjt
        rw [if_pos ⟨by omega, HJT.out⟩, ← bitOf_wrap] at hw
        have hw' := ne_zero_false hw
        obtain ⟨y, hy⟩ : ∃ y, y = K'.getD j 0 := ⟨_, rfl⟩
        rw [← hy] at hw' hcg
        obtain ⟨x, hxe⟩ : ∃ x, x = xs.getD j 0 := ⟨_, rfl⟩
        rw [← hxe] at hw' ho
        clear hxe
        rw [hka] at c3
        clear hw hy hka
        go_wp2
        go_round
        case rel => exact ⟨j + 1, by omega, by go_num⟩
        case measure => simp [intOf]; omega
      · have hjb : ((j : Int) == (d : Int) / 64 - 1) = false := by simp; omega
        obtain ⟨g, hka, hcg⟩ := HCE.out j (by omega)
        have hw := HW.out j
        have ho := HOLD.out.cell j (by rw [HX.out]; omega)
        have hp := HOLD.out.pos (by rw [HX.out]; omega)
        rw [Nat.zero_add] at ho
        rw [hp]
        clear hp
        rw [if_neg (by omega)] at hw
        have hw' := ne_zero_false hw
        obtain ⟨y, hy⟩ : ∃ y, y = K'.getD j 0 := ⟨_, rfl⟩
        rw [← hy] at hw' hcg
        obtain ⟨x, hxe⟩ : ∃ x, x = xs.getD j 0 := ⟨_, rfl⟩
        rw [← hxe] at hw' ho
        clear hxe
        rw [hka] at c3
        clear hw hy hka
        go_wp2
        go_round
        case rel => exact ⟨j + 1, by omega, by go_num⟩
        case measure => simp [intOf]; omega
    · obtain rfl : j = len := by omega
      go_wp2
      go_ret
      exact ⟨rfl, bel.trans (below_drewN _ _ _)⟩

set_option maxHeartbeats 2000000 in
set_option maxRecDepth 100000 in
theorem openSets_grow_false (a : Option Addr) (len cap b off d : Nat) (ok deep : Int) (xs : List Int) (w : World) (hx : xs.length = len) (hlen : len ≤ 131072) (hd : 64 ≤ d) (hdl : d / 64 - 1 = len) (hok : Word ok) (hK : ∀ j, Word (xs.getD j 0))
    (hnil : a = none → len = 0 ∧ cap = 0) (hrd : Reads .u64 w a b off xs) :
    Calls Try.prog 9 #[.int .i64 d, .int .u64 ok, .slice a len cap, .int .i64 deep, .bool false] w fun e w' => e = .returned (.bool true) ∧ Below w.heap.size w w' := by
  have hf : Fits d len := by unfold Fits; omega
  have hd2 : d ≤ 100000000 := by omega
  have HX : Hid (xs.length = len) := hx
  have HF : Hid (Fits d len) := hf
  have HOK : Hid (Word ok) := hok
  have HK : Hid (∀ j, Word (xs.getD j 0)) := hK
  have HNIL : Hid (a = none → len = 0 ∧ cap = 0) := hnil
  have HRD : Hid (Reads .u64 w a b off xs) := hrd
  have HDL : Hid (d / 64 - 1 = len) := hdl
  have hdi : ((d : Int) / 64 - 1 == (len : Int)) = true := by simp; omega
  have hdle : (d : Int) / 64 - 1 ≤ (len : Int) := by omega
  clear hdl
  clear hx hok hK hnil hrd hf
  go_enter Try.func9, Try.ntmps9
  go_wp2_with (go_at_call 31; go_in)
  refine (cloneWords_gen a len cap b off w.heap.size xs _ HX.out (by omega) HNIL.out HRD.out (Nat.le_refl _)).mono ?_
  rintro e w1 ⟨a1, rfl, hc1⟩
  have hz1 := hc1.below.size
  have HC1 : Hid (Cloned w w1 a1 w.heap.size xs) := hc1
  clear hc1 HRD HNIL
  go_wp2_with fail
  refine (cloneWords_gen a1 len len w.heap.size 0 w.heap.size xs _ HX.out (by omega) (fun h => ?hn) HC1.out.reads hz1).mono ?_
  case hn =>
    have h2 := HC1.out.owns
    rw [h, HX.out] at h2
    rcases h2.2 with ⟨h3, _⟩ | ⟨g, cap', cur, h3, _⟩
    · simp only [Value.slice.injEq] at h3; exact ⟨h3.2.1, h3.2.2⟩
    · simp at h3
  rintro e w2 ⟨a2, rfl, hc2⟩
  have hz2 := hc2.below.size
  have HC2 : Hid (Cloned w1 w2 a2 w.heap.size xs) := hc2
  clear hc2
  go_wp2_with fail
  have hcall := laid_open w w1 w2 a1 a2 xs HC1.out HC2.out (zlaid d ok a2 len deep) rfl HX.out.symm HX.out.symm d false 91 rfl (by rw [HX.out]; exact HF.out) (by rw [HX.out]; omega) rfl
  refine hcall.mono ?_
  clear hcall HC2
  rintro e w4 ⟨rfl, ka, kc, hz4, hk4, hr4, hbel⟩
  have hG : GAft w w4 w2.heap.size a1 xs d ok deep false ka kc (opn ok xs d false).1 (opn ok xs d false).2 :=
    gaft (a2 := a2) (by rw [HX.out]; exact HF.out) (by rw [HX.out]; omega) HOK.out HK.out (by rw [HX.out]; exact hz4) (by rw [HX.out]; exact hk4) hr4 hbel
  clear hz4 hk4 hr4 hbel HC1
  obtain ⟨ok', hok'⟩ : ∃ ok', ok' = (opn ok xs d false).1 := ⟨_, rfl⟩
  obtain ⟨K', hK'⟩ : ∃ K', K' = (opn ok xs d false).2 := ⟨_, rfl⟩
  rw [← hok', ← hK'] at hG
  clear hok' hK'
  obtain ⟨c0, c1, c2, c3, c5, kb, outer, hl, word, cell, old, bel⟩ := hG
  rw [if_neg (by omega)] at outer
  rw [if_neg (by omega), HX.out, if_pos HDL.out] at hl
  have hout := ne_zero_false outer
  replace c0 : w4.cell? ⟨w2.heap.size, 0, none⟩ = some (.int .u8 1) := c0
  rw [deepr_maxi] at c5
  have KB : Hid (∀ n, Calls Try.prog 33 #[.int .u64 ok', .slice ka K'.length kc, .int .i64 d] (w4.drewN n) fun e w' => e = .returned (.tuple #[.bool false, .bool true]) ∧ w' = w4.drewN n) := kb
  have HW : Hid (∀ j, bits .andNot .u64 (bits .xor .u64 (K'.getD j 0) (xs.getD j 0)) (if 64 ≤ d ∧ j = d / 64 - 1 then bitOf d else 0) = 0) := word
  have HCE : Hid (∀ j, j < K'.length → ∃ g, ka = some ⟨g, 0, none⟩ ∧ w4.cell? ⟨g, j, none⟩ = some (.int .u64 (K'.getD j 0))) := cell
  have HOLD : Hid (Reads .u64 w4 a1 w.heap.size 0 xs) := old
  have hb1 : ((d : Int) + 1 != (d : Int) + 1) = false := by simp
  have hb2 : (maxi deep ((d : Int) + 1) != maxi deep ((d : Int) + 1)) = false := by simp
  rw [hl] at c3 KB HCE
  clear kb outer word cell old hl
  go_wp2_with fail
  go_quiet ((go_at_call 32; exact Calls.quiet_of_same (maxInt_any _ _ _)))
  go_wp2_with fail
  refine (KB.out _).mono ?_
  rintro e w5 ⟨rfl, rfl⟩
  clear KB c0 c1 c5 hb1 hb2 hz1 hz2
  go_wp2
  go_loop [18] (fun i => ∃ (j : Nat), j ≤ len + 1 ∧ i = .int .i64 j) (fun i => len + 1 - (intOf i).toNat)
  case atStart => exact ⟨0, Nat.zero_le _, rfl⟩
  case round =>
    obtain ⟨j, hj, rfl⟩ := hrel
    by_cases hjl : j < len + 1
    · by_cases hjt : j < len
      · have hjb : ((j : Int) == (d : Int) / 64 - 1) = false := by have := HDL.out; simp; omega
        obtain ⟨g, hka, hcg⟩ := HCE.out j (by omega)
        have hw := HW.out j
        have ho := HOLD.out.cell j (by rw [HX.out]; omega)
        have hp := HOLD.out.pos (by rw [HX.out]; omega)
        rw [Nat.zero_add] at ho
        rw [hp]
        clear hp
        rw [if_neg (by have := HDL.out; omega)] at hw
        have hw' := ne_zero_false hw
        obtain ⟨y, hy⟩ : ∃ y, y = K'.getD j 0 := ⟨_, rfl⟩
        rw [← hy] at hw' hcg
        obtain ⟨x, hxe⟩ : ∃ x, x = xs.getD j 0 := ⟨_, rfl⟩
        rw [← hxe] at hw' ho
        clear hxe
        rw [hka] at c3
        clear hw hy hka
        go_wp2
        go_round
        case rel => exact ⟨j + 1, by omega, by go_num⟩
        case measure => simp [intOf]; omega
      · have hjb : ((j : Int) == (d : Int) / 64 - 1) = true := by have := HDL.out; simp; omega
        obtain ⟨g, hka, hcg⟩ := HCE.out j (by omega)
        have hw := HW.out j
        have hx0 : xs.getD j 0 = 0 := by simp [List.getD, List.getElem?_eq_none (show xs.length ≤ j by rw [HX.out]; omega)]
        rw [hx0] at hw
        clear hx0
        rw [if_pos ⟨by omega, by have := HDL.out; omega⟩, ← bitOf_wrap] at hw
        have hw' := ne_zero_false hw
        obtain ⟨y, hy⟩ : ∃ y, y = K'.getD j 0 := ⟨_, rfl⟩
        rw [← hy] at hw' hcg
        rw [hka] at c3
        clear hw hy hka
        go_wp2
        go_round
        case rel => exact ⟨j + 1, by omega, by go_num⟩
        case measure => simp [intOf]; omega
    · obtain rfl : j = len + 1 := by omega
      go_wp2
      go_ret
      exact ⟨rfl, bel.trans (below_drewN _ _ _)⟩

set_option maxHeartbeats 2000000 in
set_option maxRecDepth 100000 in
theorem openSets_low_true (a : Option Addr) (len cap b off d : Nat) (ok deep : Int) (xs : List Int) (w : World) (hx : xs.length = len) (hlen : len ≤ 131072) (hd : d < 64) (hok : Word ok) (hK : ∀ j, Word (xs.getD j 0))
    (hnil : a = none → len = 0 ∧ cap = 0) (hrd : Reads .u64 w a b off xs) :
    Calls Try.prog 9 #[.int .i64 d, .int .u64 ok, .slice a len cap, .int .i64 deep, .bool true] w fun e w' => e = .returned (.bool true) ∧ Below w.heap.size w w' := by
  have hf : Fits d len := by unfold Fits; omega
  have hd2 : d ≤ 100000000 := by omega
  have HX : Hid (xs.length = len) := hx
  have HF : Hid (Fits d len) := hf
  have HOK : Hid (Word ok) := hok
  have HK : Hid (∀ j, Word (xs.getD j 0)) := hK
  have HNIL : Hid (a = none → len = 0 ∧ cap = 0) := hnil
  have HRD : Hid (Reads .u64 w a b off xs) := hrd
  clear hx hok hK hnil hrd hf
  go_enter Try.func9, Try.ntmps9
  go_wp2_with (go_at_call 31; go_in)
  refine (cloneWords_gen a len cap b off w.heap.size xs _ HX.out (by omega) HNIL.out HRD.out (Nat.le_refl _)).mono ?_
  rintro e w1 ⟨a1, rfl, hc1⟩
  have hz1 := hc1.below.size
  have HC1 : Hid (Cloned w w1 a1 w.heap.size xs) := hc1
  clear hc1 HRD HNIL
  go_wp2_with fail
  refine (cloneWords_gen a1 len len w.heap.size 0 w.heap.size xs _ HX.out (by omega) (fun h => ?hn) HC1.out.reads hz1).mono ?_
  case hn =>
    have h2 := HC1.out.owns
    rw [h, HX.out] at h2
    rcases h2.2 with ⟨h3, _⟩ | ⟨g, cap', cur, h3, _⟩
    · simp only [Value.slice.injEq] at h3; exact ⟨h3.2.1, h3.2.2⟩
    · simp at h3
  rintro e w2 ⟨a2, rfl, hc2⟩
  have hz2 := hc2.below.size
  have HC2 : Hid (Cloned w1 w2 a2 w.heap.size xs) := hc2
  clear hc2
  go_wp2_with fail
  have hcall := laid_open w w1 w2 a1 a2 xs HC1.out HC2.out (zlaid d ok a2 len deep) rfl HX.out.symm HX.out.symm d true 123 rfl (by rw [HX.out]; exact HF.out) (by rw [HX.out]; omega) rfl
  refine hcall.mono ?_
  clear hcall HC2
  rintro e w4 ⟨rfl, ka, kc, hz4, hk4, hr4, hbel⟩
  have hG : GAft w w4 w2.heap.size a1 xs d ok deep true ka kc (opn ok xs d true).1 (opn ok xs d true).2 :=
    gaft (a2 := a2) (by rw [HX.out]; exact HF.out) (by rw [HX.out]; omega) HOK.out HK.out (by rw [HX.out]; exact hz4) (by rw [HX.out]; exact hk4) hr4 hbel
  clear hz4 hk4 hr4 hbel HC1
  obtain ⟨ok', hok'⟩ : ∃ ok', ok' = (opn ok xs d true).1 := ⟨_, rfl⟩
  obtain ⟨K', hK'⟩ : ∃ K', K' = (opn ok xs d true).2 := ⟨_, rfl⟩
  rw [← hok', ← hK'] at hG
  clear hok' hK'
  obtain ⟨c0, c1, c2, c3, c5, kb, outer, hl, word, cell, old, bel⟩ := hG
  rw [if_pos hd] at outer
  rw [if_pos hd, HX.out] at hl
  rw [← bitOf_small hd] at outer
  have htw : ((-1 : Int) == (len : Int)) = false := by simp
  have hout := ne_zero_false outer
  replace c0 : w4.cell? ⟨w2.heap.size, 0, none⟩ = some (.int .u8 2) := c0
  rw [deepr_maxi] at c5
  have KB : Hid (∀ n, Calls Try.prog 33 #[.int .u64 ok', .slice ka K'.length kc, .int .i64 d] (w4.drewN n) fun e w' => e = .returned (.tuple #[.bool true, .bool true]) ∧ w' = w4.drewN n) := kb
  have HW : Hid (∀ j, bits .andNot .u64 (bits .xor .u64 (K'.getD j 0) (xs.getD j 0)) (if 64 ≤ d ∧ j = d / 64 - 1 then bitOf d else 0) = 0) := word
  have HCE : Hid (∀ j, j < K'.length → ∃ g, ka = some ⟨g, 0, none⟩ ∧ w4.cell? ⟨g, j, none⟩ = some (.int .u64 (K'.getD j 0))) := cell
  have HOLD : Hid (Reads .u64 w4 a1 w.heap.size 0 xs) := old
  have hb1 : ((d : Int) + 1 != (d : Int) + 1) = false := by simp
  have hb2 : (maxi deep ((d : Int) + 1) != maxi deep ((d : Int) + 1)) = false := by simp
  rw [hl] at c3 KB HCE
  clear kb outer word cell old hl
  go_wp2_with fail
  go_quiet ((go_at_call 32; exact Calls.quiet_of_same (maxInt_any _ _ _)))
  go_wp2_with fail
  refine (KB.out _).mono ?_
  rintro e w5 ⟨rfl, rfl⟩
  clear KB c0 c1 c5 hb1 hb2 hz1 hz2
  go_wp2
  go_loop [18] (fun i => ∃ (j : Nat), j ≤ len ∧ i = .int .i64 j) (fun i => len - (intOf i).toNat)
  case atStart => exact ⟨0, Nat.zero_le _, rfl⟩
  case round =>
    obtain ⟨j, hj, rfl⟩ := hrel
    by_cases hjl : j < len
    · have hjt : ((j : Int) == -1) = false := by simp
      obtain ⟨g, hka, hcg⟩ := HCE.out j (by omega)
      have hw := HW.out j
      have ho := HOLD.out.cell j (by rw [HX.out]; omega)
      have hp := HOLD.out.pos (by rw [HX.out]; omega)
      rw [Nat.zero_add] at ho
      rw [hp]
      clear hp
      rw [if_neg (by omega)] at hw
      have hw' := ne_zero_false hw
      obtain ⟨y, hy⟩ : ∃ y, y = K'.getD j 0 := ⟨_, rfl⟩
      rw [← hy] at hw' hcg
      obtain ⟨x, hxe⟩ : ∃ x, x = xs.getD j 0 := ⟨_, rfl⟩
      rw [← hxe] at hw' ho
      clear hxe
      rw [hka] at c3
      clear hw hy hka
      go_wp2
      go_round
      case rel => exact ⟨j + 1, by omega, by go_num⟩
      case measure => simp [intOf]; omega
    · obtain rfl : j = len := by omega
      go_wp2
      go_ret
      exact ⟨rfl, bel.trans (below_drewN _ _ _)⟩

set_option maxHeartbeats 2000000 in
set_option maxRecDepth 100000 in
theorem openSets_mid_true (a : Option Addr) (len cap b off d : Nat) (ok deep : Int) (xs : List Int) (w : World) (hx : xs.length = len) (hlen : len ≤ 131072) (hd : 64 ≤ d) (hdl : d / 64 - 1 < len) (hok : Word ok) (hK : ∀ j, Word (xs.getD j 0))
    (hnil : a = none → len = 0 ∧ cap = 0) (hrd : Reads .u64 w a b off xs) :
    Calls Try.prog 9 #[.int .i64 d, .int .u64 ok, .slice a len cap, .int .i64 deep, .bool true] w fun e w' => e = .returned (.bool true) ∧ Below w.heap.size w w' := by
  have hf : Fits d len := by unfold Fits; omega
  have hd2 : d ≤ 100000000 := by omega
  have HX : Hid (xs.length = len) := hx
  have HF : Hid (Fits d len) := hf
  have HOK : Hid (Word ok) := hok
  have HK : Hid (∀ j, Word (xs.getD j 0)) := hK
  have HNIL : Hid (a = none → len = 0 ∧ cap = 0) := hnil
  have HRD : Hid (Reads .u64 w a b off xs) := hrd
  have hdi : ((d : Int) / 64 - 1 == (len : Int)) = false := by simp; omega
  clear hx hok hK hnil hrd hf
  go_enter Try.func9, Try.ntmps9
  go_wp2_with (go_at_call 31; go_in)
  refine (cloneWords_gen a len cap b off w.heap.size xs _ HX.out (by omega) HNIL.out HRD.out (Nat.le_refl _)).mono ?_
  rintro e w1 ⟨a1, rfl, hc1⟩
  have hz1 := hc1.below.size
  have HC1 : Hid (Cloned w w1 a1 w.heap.size xs) := hc1
  clear hc1 HRD HNIL
  go_wp2_with fail
  refine (cloneWords_gen a1 len len w.heap.size 0 w.heap.size xs _ HX.out (by omega) (fun h => ?hn) HC1.out.reads hz1).mono ?_
  case hn =>
    have h2 := HC1.out.owns
    rw [h, HX.out] at h2
    rcases h2.2 with ⟨h3, _⟩ | ⟨g, cap', cur, h3, _⟩
    · simp only [Value.slice.injEq] at h3; exact ⟨h3.2.1, h3.2.2⟩
    · simp at h3
  rintro e w2 ⟨a2, rfl, hc2⟩
  have hz2 := hc2.below.size
  have HC2 : Hid (Cloned w1 w2 a2 w.heap.size xs) := hc2
  clear hc2
  go_wp2_with fail
  have hcall := laid_open w w1 w2 a1 a2 xs HC1.out HC2.out (zlaid d ok a2 len deep) rfl HX.out.symm HX.out.symm d true 123 rfl (by rw [HX.out]; exact HF.out) (by rw [HX.out]; omega) rfl
  refine hcall.mono ?_
  clear hcall HC2
  rintro e w4 ⟨rfl, ka, kc, hz4, hk4, hr4, hbel⟩
  have hG : GAft w w4 w2.heap.size a1 xs d ok deep true ka kc (opn ok xs d true).1 (opn ok xs d true).2 :=
    gaft (a2 := a2) (by rw [HX.out]; exact HF.out) (by rw [HX.out]; omega) HOK.out HK.out (by rw [HX.out]; exact hz4) (by rw [HX.out]; exact hk4) hr4 hbel
  clear hz4 hk4 hr4 hbel HC1
  obtain ⟨ok', hok'⟩ : ∃ ok', ok' = (opn ok xs d true).1 := ⟨_, rfl⟩
  obtain ⟨K', hK'⟩ : ∃ K', K' = (opn ok xs d true).2 := ⟨_, rfl⟩
  rw [← hok', ← hK'] at hG
  clear hok' hK'
  obtain ⟨c0, c1, c2, c3, c5, kb, outer, hl, word, cell, old, bel⟩ := hG
  rw [if_neg (by omega)] at outer
  rw [if_neg (by omega), HX.out, if_neg (by omega)] at hl
  have hout := ne_zero_false outer
  replace c0 : w4.cell? ⟨w2.heap.size, 0, none⟩ = some (.int .u8 2) := c0
  rw [deepr_maxi] at c5
  have KB : Hid (∀ n, Calls Try.prog 33 #[.int .u64 ok', .slice ka K'.length kc, .int .i64 d] (w4.drewN n) fun e w' => e = .returned (.tuple #[.bool true, .bool true]) ∧ w' = w4.drewN n) := kb
  have HW : Hid (∀ j, bits .andNot .u64 (bits .xor .u64 (K'.getD j 0) (xs.getD j 0)) (if 64 ≤ d ∧ j = d / 64 - 1 then bitOf d else 0) = 0) := word
  have HCE : Hid (∀ j, j < K'.length → ∃ g, ka = some ⟨g, 0, none⟩ ∧ w4.cell? ⟨g, j, none⟩ = some (.int .u64 (K'.getD j 0))) := cell
  have HOLD : Hid (Reads .u64 w4 a1 w.heap.size 0 xs) := old
  have hb1 : ((d : Int) + 1 != (d : Int) + 1) = false := by simp
  have hb2 : (maxi deep ((d : Int) + 1) != maxi deep ((d : Int) + 1)) = false := by simp
  rw [hl] at c3 KB HCE
  clear kb outer word cell old hl
  go_wp2_with fail
  go_quiet ((go_at_call 32; exact Calls.quiet_of_same (maxInt_any _ _ _)))
  go_wp2_with fail
  refine (KB.out _).mono ?_
  rintro e w5 ⟨rfl, rfl⟩
  clear KB c0 c1 c5 hb1 hb2 hz1 hz2
  go_wp2
  go_loop [18] (fun i => ∃ (j : Nat), j ≤ len ∧ i = .int .i64 j) (fun i => len - (intOf i).toNat)
  case atStart => exact ⟨0, Nat.zero_le _, rfl⟩
  case round =>
    obtain ⟨j, hj, rfl⟩ := hrel
    by_cases hjl : j < len
    · by_cases hjt : j = d / 64 - 1
      · have HJT : Hid (j = d / 64 - 1) := hjt
        have hjb : ((j : Int) == (d : Int) / 64 - 1) = true := by simp; omega
        obtain ⟨g, hka, hcg⟩ := HCE.out j (by omega)
        have hw := HW.out j
        have ho := HOLD.out.cell j (by rw [HX.out]; omega)
        have hp := HOLD.out.pos (by rw [HX.out]; omega)
        rw [Nat.zero_add] at ho
        rw [hp]
        clear hp
        clear hjt
        rw [if_pos ⟨by omega, HJT.out⟩, ← bitOf_wrap] at hw
        have hw' := ne_zero_false hw
        obtain ⟨y, hy⟩ : ∃ y, y = K'.getD j 0 := ⟨_, rfl⟩
        rw [← hy] at hw' hcg
        obtain ⟨x, hxe⟩ : ∃ x, x = xs.getD j 0 := ⟨_, rfl⟩
        rw [← hxe] at hw' ho
        clear hxe
        rw [hka] at c3
        clear hw hy hka
        go_wp2
        go_round
        case rel => exact ⟨j + 1, by omega, by go_num⟩
        case measure => simp [intOf]; omega
      · have hjb : ((j : Int) == (d : Int) / 64 - 1) = false := by simp; omega
        obtain ⟨g, hka, hcg⟩ := HCE.out j (by omega)
        have hw := HW.out j
        have ho := HOLD.out.cell j (by rw [HX.out]; omega)
        have hp := HOLD.out.pos (by rw [HX.out]; omega)
        rw [Nat.zero_add] at ho
        rw [hp]
        clear hp
        rw [if_neg (by omega)] at hw
        have hw' := ne_zero_false hw
        obtain ⟨y, hy⟩ : ∃ y, y = K'.getD j 0 := ⟨_, rfl⟩
        rw [← hy] at hw' hcg
        obtain ⟨x, hxe⟩ : ∃ x, x = xs.getD j 0 := ⟨_, rfl⟩
        rw [← hxe] at hw' ho
        clear hxe
        rw [hka] at c3
        clear hw hy hka
        go_wp2
        go_round
        case rel => exact ⟨j + 1, by omega, by go_num⟩
        case measure => simp [intOf]; omega
    · obtain rfl : j = len := by omega
      go_wp2
      go_ret
      exact ⟨rfl, bel.trans (below_drewN _ _ _)⟩

set_option maxHeartbeats 2000000 in
set_option maxRecDepth 100000 in
theorem openSets_grow_true (a : Option Addr) (len cap b off d : Nat) (ok deep : Int) (xs : List Int) (w : World) (hx : xs.length = len) (hlen : len ≤ 131072) (hd : 64 ≤ d) (hdl : d / 64 - 1 = len) (hok : Word ok) (hK : ∀ j, Word (xs.getD j 0))
    (hnil : a = none → len = 0 ∧ cap = 0) (hrd : Reads .u64 w a b off xs) :
    Calls Try.prog 9 #[.int .i64 d, .int .u64 ok, .slice a len cap, .int .i64 deep, .bool true] w fun e w' => e = .returned (.bool true) ∧ Below w.heap.size w w' := by
  have hf : Fits d len := by unfold Fits; omega
  have hd2 : d ≤ 100000000 := by omega
  have HX : Hid (xs.length = len) := hx
  have HF : Hid (Fits d len) := hf
  have HOK : Hid (Word ok) := hok
  have HK : Hid (∀ j, Word (xs.getD j 0)) := hK
  have HNIL : Hid (a = none → len = 0 ∧ cap = 0) := hnil
  have HRD : Hid (Reads .u64 w a b off xs) := hrd
  have HDL : Hid (d / 64 - 1 = len) := hdl
  have hdi : ((d : Int) / 64 - 1 == (len : Int)) = true := by simp; omega
  have hdle : (d : Int) / 64 - 1 ≤ (len : Int) := by omega
  clear hdl
  clear hx hok hK hnil hrd hf
  go_enter Try.func9, Try.ntmps9
  go_wp2_with (go_at_call 31; go_in)
  refine (cloneWords_gen a len cap b off w.heap.size xs _ HX.out (by omega) HNIL.out HRD.out (Nat.le_refl _)).mono ?_
  rintro e w1 ⟨a1, rfl, hc1⟩
  have hz1 := hc1.below.size
  have HC1 : Hid (Cloned w w1 a1 w.heap.size xs) := hc1
  clear hc1 HRD HNIL
  go_wp2_with fail
  refine (cloneWords_gen a1 len len w.heap.size 0 w.heap.size xs _ HX.out (by omega) (fun h => ?hn) HC1.out.reads hz1).mono ?_
  case hn =>
    have h2 := HC1.out.owns
    rw [h, HX.out] at h2
    rcases h2.2 with ⟨h3, _⟩ | ⟨g, cap', cur, h3, _⟩
    · simp only [Value.slice.injEq] at h3; exact ⟨h3.2.1, h3.2.2⟩
    · simp at h3
  rintro e w2 ⟨a2, rfl, hc2⟩
  have hz2 := hc2.below.size
  have HC2 : Hid (Cloned w1 w2 a2 w.heap.size xs) := hc2
  clear hc2
  go_wp2_with fail
  have hcall := laid_open w w1 w2 a1 a2 xs HC1.out HC2.out (zlaid d ok a2 len deep) rfl HX.out.symm HX.out.symm d true 123 rfl (by rw [HX.out]; exact HF.out) (by rw [HX.out]; omega) rfl
  refine hcall.mono ?_
  clear hcall HC2
  rintro e w4 ⟨rfl, ka, kc, hz4, hk4, hr4, hbel⟩
  have hG : GAft w w4 w2.heap.size a1 xs d ok deep true ka kc (opn ok xs d true).1 (opn ok xs d true).2 :=
    gaft (a2 := a2) (by rw [HX.out]; exact HF.out) (by rw [HX.out]; omega) HOK.out HK.out (by rw [HX.out]; exact hz4) (by rw [HX.out]; exact hk4) hr4 hbel
  clear hz4 hk4 hr4 hbel HC1
  obtain ⟨ok', hok'⟩ : ∃ ok', ok' = (opn ok xs d true).1 := ⟨_, rfl⟩
  obtain ⟨K', hK'⟩ : ∃ K', K' = (opn ok xs d true).2 := ⟨_, rfl⟩
  rw [← hok', ← hK'] at hG
  clear hok' hK'
  obtain ⟨c0, c1, c2, c3, c5, kb, outer, hl, word, cell, old, bel⟩ := hG
  rw [if_neg (by omega)] at outer
  rw [if_neg (by omega), HX.out, if_pos HDL.out] at hl
  have hout := ne_zero_false outer
  replace c0 : w4.cell? ⟨w2.heap.size, 0, none⟩ = some (.int .u8 2) := c0
  rw [deepr_maxi] at c5
  have KB : Hid (∀ n, Calls Try.prog 33 #[.int .u64 ok', .slice ka K'.length kc, .int .i64 d] (w4.drewN n) fun e w' => e = .returned (.tuple #[.bool true, .bool true]) ∧ w' = w4.drewN n) := kb
  have HW : Hid (∀ j, bits .andNot .u64 (bits .xor .u64 (K'.getD j 0) (xs.getD j 0)) (if 64 ≤ d ∧ j = d / 64 - 1 then bitOf d else 0) = 0) := word
  have HCE : Hid (∀ j, j < K'.length → ∃ g, ka = some ⟨g, 0, none⟩ ∧ w4.cell? ⟨g, j, none⟩ = some (.int .u64 (K'.getD j 0))) := cell
  have HOLD : Hid (Reads .u64 w4 a1 w.heap.size 0 xs) := old
  have hb1 : ((d : Int) + 1 != (d : Int) + 1) = false := by simp
  have hb2 : (maxi deep ((d : Int) + 1) != maxi deep ((d : Int) + 1)) = false := by simp
  rw [hl] at c3 KB HCE
  clear kb outer word cell old hl
  go_wp2_with fail
  go_quiet ((go_at_call 32; exact Calls.quiet_of_same (maxInt_any _ _ _)))
  go_wp2_with fail
  refine (KB.out _).mono ?_
  rintro e w5 ⟨rfl, rfl⟩
  clear KB c0 c1 c5 hb1 hb2 hz1 hz2
  go_wp2
  go_loop [18] (fun i => ∃ (j : Nat), j ≤ len + 1 ∧ i = .int .i64 j) (fun i => len + 1 - (intOf i).toNat)
  case atStart => exact ⟨0, Nat.zero_le _, rfl⟩
  case round =>
    obtain ⟨j, hj, rfl⟩ := hrel
    by_cases hjl : j < len + 1
    · by_cases hjt : j < len
      · have hjb : ((j : Int) == (d : Int) / 64 - 1) = false := by have := HDL.out; simp; omega
        obtain ⟨g, hka, hcg⟩ := HCE.out j (by omega)
        have hw := HW.out j
        have ho := HOLD.out.cell j (by rw [HX.out]; omega)
        have hp := HOLD.out.pos (by rw [HX.out]; omega)
        rw [Nat.zero_add] at ho
        rw [hp]
        clear hp
        rw [if_neg (by have := HDL.out; omega)] at hw
        have hw' := ne_zero_false hw
        obtain ⟨y, hy⟩ : ∃ y, y = K'.getD j 0 := ⟨_, rfl⟩
        rw [← hy] at hw' hcg
        obtain ⟨x, hxe⟩ : ∃ x, x = xs.getD j 0 := ⟨_, rfl⟩
        rw [← hxe] at hw' ho
        clear hxe
        rw [hka] at c3
        clear hw hy hka
        go_wp2
        go_round
        case rel => exact ⟨j + 1, by omega, by go_num⟩
        case measure => simp [intOf]; omega
      · have hjb : ((j : Int) == (d : Int) / 64 - 1) = true := by have := HDL.out; simp; omega
        obtain ⟨g, hka, hcg⟩ := HCE.out j (by omega)
        have hw := HW.out j
        have hx0 : xs.getD j 0 = 0 := by simp [List.getD, List.getElem?_eq_none (show xs.length ≤ j by rw [HX.out]; omega)]
        rw [hx0] at hw
        clear hx0
        rw [if_pos ⟨by omega, by have := HDL.out; omega⟩, ← bitOf_wrap] at hw
        have hw' := ne_zero_false hw
        obtain ⟨y, hy⟩ : ∃ y, y = K'.getD j 0 := ⟨_, rfl⟩
        rw [← hy] at hw' hcg
        rw [hka] at c3
        clear hw hy hka
        go_wp2
        go_round
        case rel => exact ⟨j + 1, by omega, by go_num⟩
        case measure => simp [intOf]; omega
    · obtain rfl : j = len + 1 := by omega
      go_wp2
      go_ret
      exact ⟨rfl, bel.trans (below_drewN _ _ _)⟩


end Go.Proofs.Qxb6000752a
