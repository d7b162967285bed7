/-
  The walks of compactInPlace (36) and ZZCompactInPlace (23).
-/
import Derived.Test.Qxb6000752aProg
import Derived.Test.Qxb6000752aBlk
import Derived.Test.Qxb6000752aComp
import Derived.WalkSpells
import Derived.WalkLawsBesides
namespace Go.Proofs.Qxb6000752a
open Go.RowKit

theorem ret_slice {a : Option Addr} {n m c : Nat} (h : n = m) : Ending.returned (.slice a n c) = .returned (.slice a m c) := by rw [h]

theorem compact_nil (w : World) : Calls Try.prog 36 #[.slice none 0 0] w fun e w' => e = .returned (.slice none 0 0) ∧ w' = w := by
  go_enter Try.func36, Try.ntmps36
  go_wp2
  refine wp_loop_rounds 1 ?_
  rw [rounds_succ]
  go_wp2
  go_ret
  exact ⟨rfl, rfl⟩
theorem zzCompact_nil (w : World) : Calls Try.prog 23 #[.slice none 0 0] w fun e w' => e = .returned (.slice none 0 0) ∧ w' = w := by
  go_enter Try.func23, Try.ntmps23
  go_wp2_with (go_at_call 36; refine (compact_nil _).mono ?_; rintro e w' ⟨rfl, rfl⟩)
  go_ret
  exact ⟨rfl, rfl⟩

/-- The row in memory while the loop goes: its first cells hold ys. -/
def Row8 (base g N cap : Nat) (w : World) (ys : List Int) : Prop := w.ownsRow base 5 1 (.slice (some ⟨g, 0, none⟩) N cap) N (ys.map (Value.int .u8))
theorem Row8.cell {base g N cap : Nat} {w : World} {ys : List Int} (h : Row8 base g N cap w ys) {j : Nat} (hj : j < N) : w.cell? ⟨g, j, none⟩ = some (.int .u8 (ys.getD j 0)) := by
  have hl : ys.length = N := by simpa using h.1
  rw [World.ownsRow.cellAt h j (by omega)]
  simp [List.getElem?_eq_getElem (show j < ys.length by omega)]
theorem Row8.free {base g N cap : Nat} {w : World} {ys : List Int} (h : Row8 base g N cap w ys) (j : Nat) : w.frozen? ⟨g, j, none⟩ = false := World.ownsRow.frozenAt h j
theorem Row8.store {base g N cap : Nat} {w : World} {ys : List Int} (h : Row8 base g N cap w ys) (j : Nat) (c : Int) : Row8 base g N cap (w.setCell ⟨g, j, none⟩ (.int .u8 c)) (ys.set j c) := by
  have := (World.ownsRow.stored h j (.int .u8 c)).1
  unfold Row8
  rwa [List.map_set]

/-- What the loop keeps, as one fact: so that the walk does not take it apart. -/
def CRel (base g N cap : Nat) (xs : List Int) (w wr : World) (i n q : Nat) : Prop := ∃ ys, CInv xs i n q ys ∧ Row8 base g N cap wr ys ∧ w.grownBy wr (some g)

set_option maxHeartbeats 1600000 in
theorem compact_any (base g N cap : Nat) (xs : List Int) (w : World) (hx : xs.length = N) (hr : N ≤ 1073741824) (hcap : N ≤ cap) (hcap2 : cap ≤ 9223372036854775807) (hrow : Row8 base g N cap w xs) (hq : crun 0 xs ≠ 2) :
    Calls Try.prog 36 #[.slice (some ⟨g, 0, none⟩) N cap] w fun e w' => e = .returned (.slice (some ⟨g, 0, none⟩) (comp 0 xs).length cap) ∧
      (∃ ys, ys.length = N ∧ ys.take (comp 0 xs).length = comp 0 xs ∧ Row8 base g N cap w' ys) ∧ w.grownBy w' (some g) := by
  have HX : Hid (xs.length = N) := hx
  have HQ : Hid (crun 0 xs ≠ 2) := hq
  clear hx hq
  go_enter Try.func36, Try.ntmps36
  go_wp2
  go_loopw [3, 4, 5] (fun sn ss si wr => ∃ (i n : Nat) (s : Bool), i ≤ N ∧ n ≤ i ∧ sn = .int .i64 n ∧ ss = .bool s ∧ si = .int .i64 i ∧ CRel base g N cap xs w wr i n (if s then 1 else 0)) (fun _ _ i _ => N - (intOf i).toNat)
  case atStart => exact ⟨0, 0, false, Nat.zero_le _, Nat.le_refl _, rfl, rfl, rfl, ⟨xs, cinv_start xs, hrow, World.grownBy.refl _ _⟩⟩
  case round =>
    obtain ⟨i, n, s, hi, hn, rfl, rfl, rfl, ys, hinv, hrw, hgr⟩ := hrel
    have HI : Hid (CInv xs i n (if s then 1 else 0) ys) := hinv
    have HR : Hid (Row8 base g N cap wr ys) := hrw
    have HG : Hid (w.grownBy wr (some g)) := hgr
    clear hinv hrw hgr hrow
    by_cases hlt : i < N
    · have hci := HR.out.cell hlt
      rw [HI.out.at_ i (Nat.le_refl _)] at hci
      have hcn := HR.out.cell (show n < N by omega)
      have hfn := HR.out.free n
      obtain ⟨c, hc⟩ : ∃ c, c = xs.getD i 0 := ⟨_, rfl⟩
      rw [← hc] at hci
      have HC : Hid (c = xs.getD i 0) := hc
      obtain ⟨y, hy⟩ : ∃ y, y = ys.getD n 0 := ⟨_, rfl⟩
      rw [← hy] at hcn
      clear hc hy
      have hiX : Hid (i < xs.length) := by rw [Hid, HX.out]; exact hlt
      cases s
      · -- OUTSIDE A STRING
        by_cases h34 : c = 34
        · subst h34
          go_wp2
          go_roundw
          case rel => exact ⟨i + 1, n + 1, true, by omega, by omega, by go_num, rfl, by go_num, ys.set n 34, HI.out.keep hiX.out HC.out rfl, HR.out.store n 34, grownBy_trans HG.out (grownBy_setCell _ _ _ _)⟩
          case measure => simp [intOf]; omega
        · have hb34 : (c == 34) = false := by simpa using h34
          have H34 : Hid (¬ c = 34) := h34
          clear h34
          cases hs : sp c
          · have h4 : (c == 32) = false ∧ (c == 9) = false ∧ (c == 13) = false ∧ (c == 10) = false := by
              simp [sp] at hs; simp; omega
            obtain ⟨s1, s2, s3, s4⟩ := h4
            have HS : Hid (sp c = false) := hs
            clear hs
            go_wp2
            go_roundw
            case rel =>
              have hk : kept 0 c = true := by simp [kept, HS.out]
              have hq' : nxt 0 c = 0 := by simp [nxt, H34.out]
              have := HI.out.keep hiX.out HC.out hk
              simp only [Bool.false_eq_true, if_false] at this
              rw [hq'] at this
              exact ⟨i + 1, n + 1, false, by omega, by omega, by go_num, rfl, by go_num, ys.set n c, this, HR.out.store n c, grownBy_trans HG.out (grownBy_setCell _ _ _ _)⟩
            case measure => simp [intOf]; omega
          · have HS : Hid (sp c = true) := hs
            have h4 : c = 32 ∨ c = 9 ∨ c = 13 ∨ c = 10 := by simp [sp] at hs; omega
            clear hs
            have HK := HI.out.skip hiX.out HC.out HS.out
            have HKK : Hid (CInv xs (i + 1) n 0 ys) := HK
            clear HK
            rcases h4 with rfl | rfl | rfl | rfl
            all_goals
              go_wp2
              go_roundw
              case rel => exact ⟨i + 1, n, false, by omega, by omega, rfl, rfl, by go_num, ys, HKK.out, HR.out, HG.out⟩
              case measure => simp [intOf]; omega
      · -- IN A STRING
        by_cases h92 : c = 92
        · subst h92
          have hk2 : CInv xs (i + 1) (n + 1) 2 (ys.set n 92) := HI.out.keep hiX.out HC.out rfl
          have hm := hk2.more HQ.out
          have hlt2 : i + 1 < N := by rw [HX.out] at hm; exact hm
          have hk3 : CInv xs (i + 1 + 1) (n + 1 + 1) 1 ((ys.set n 92).set (n + 1) (xs.getD (i + 1) 0)) := hk2.keep hm rfl rfl
          have hci2 := HR.out.cell hlt2
          rw [HI.out.at_ (i + 1) (by omega)] at hci2
          have hcn2 := HR.out.cell (show n + 1 < N by omega)
          have hfn2 := HR.out.free (n + 1)
          obtain ⟨d, hd⟩ : ∃ d, d = xs.getD (i + 1) 0 := ⟨_, rfl⟩
          rw [← hd] at hci2 hk3
          obtain ⟨y2, hy2⟩ : ∃ y2, y2 = ys.getD (n + 1) 0 := ⟨_, rfl⟩
          rw [← hy2] at hcn2
          have HK : Hid (CInv xs (i + 1 + 1) (n + 1 + 1) 1 ((ys.set n 92).set (n + 1) d)) := hk3
          clear hk2 hk3 hm hd hy2
          go_wp2
          go_roundw
          case rel => exact ⟨i + 1 + 1, n + 1 + 1, true, by omega, by omega, by go_num, rfl, by go_num, _, HK.out, (HR.out.store n 92).store (n + 1) d, grownBy_trans HG.out (grownBy_trans (grownBy_setCell _ _ _ _) (grownBy_setCell _ _ _ _))⟩
          case measure => simp [intOf]; omega
        · have hb92 : (c == 92) = false := by simpa using h92
          have H92 : Hid (¬ c = 92) := h92
          clear h92
          by_cases h34 : c = 34
          · subst h34
            go_wp2
            go_roundw
            case rel => exact ⟨i + 1, n + 1, false, by omega, by omega, by go_num, rfl, by go_num, ys.set n 34, HI.out.keep hiX.out HC.out rfl, HR.out.store n 34, grownBy_trans HG.out (grownBy_setCell _ _ _ _)⟩
            case measure => simp [intOf]; omega
          · have hb34 : (c == 34) = false := by simpa using h34
            have H34 : Hid (¬ c = 34) := h34
            clear h34
            go_wp2
            go_roundw
            case rel =>
              have hk : kept 1 c = true := rfl
              have hq' : nxt 1 c = 1 := by simp [nxt, H34.out, H92.out]
              have := HI.out.keep hiX.out HC.out hk
              simp only [if_true] at this
              rw [hq'] at this
              exact ⟨i + 1, n + 1, true, by omega, by omega, by go_num, rfl, by go_num, ys.set n c, this, HR.out.store n c, grownBy_trans HG.out (grownBy_setCell _ _ _ _)⟩
            case measure => simp [intOf]; omega
    · obtain rfl : i = N := by omega
      go_wp2
      go_ret
      have hI := HI.out
      have hl : ys.length = i := by rw [hI.len]; exact HX.out
      have hI2 : CInv xs xs.length n (if s then 1 else 0) ys := by rw [HX.out]; exact hI
      obtain ⟨e1, e2⟩ := hI2.done
      exact ⟨ret_slice e2, ⟨ys, hl, e1, HR.out⟩, HG.out⟩

theorem zzCompact_any (base g N cap : Nat) (xs : List Int) (w : World) (hx : xs.length = N) (hr : N ≤ 1073741824) (hcap : N ≤ cap) (hcap2 : cap ≤ 9223372036854775807) (hrow : Row8 base g N cap w xs) (hq : crun 0 xs ≠ 2) :
    Calls Try.prog 23 #[.slice (some ⟨g, 0, none⟩) N cap] w fun e w' => e = .returned (.slice (some ⟨g, 0, none⟩) (comp 0 xs).length cap) ∧
      (∃ ys, ys.length = N ∧ ys.take (comp 0 xs).length = comp 0 xs ∧ Row8 base g N cap w' ys) ∧ w.grownBy w' (some g) := by
  have HX : Hid (xs.length = N) := hx
  have HR : Hid (Row8 base g N cap w xs) := hrow
  have HQ : Hid (crun 0 xs ≠ 2) := hq
  clear hx hrow hq
  go_enter Try.func23, Try.ntmps23
  go_wp2_with (go_at_call 36; refine (compact_any base g N cap xs _ HX.out hr hcap hcap2 HR.out HQ.out).mono ?_; rintro e w' ⟨rfl, h⟩)
  go_ret
  exact ⟨rfl, h⟩

end Go.Proofs.Qxb6000752a
