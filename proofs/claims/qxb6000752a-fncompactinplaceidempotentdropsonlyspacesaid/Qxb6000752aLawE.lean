/-
  The walk of FnCompactInPlaceIdempotentDropsOnlySpace (7).
-/
import Derived.Test.Qxb6000752aMem
import Derived.Test.Qxb6000752aEq
import Derived.Test.Qxb6000752aCompact
import Derived.Test.Qxb6000752aSub
namespace Go.Proofs.Qxb6000752a
open Go.RowKit

theorem row8_of_blk {w : World} {g : Nat} {xs : List Int} (base : Nat) (h : Blk .u8 5 w g xs) (hb : base ≤ g) (hm : xs.length ≤ maxLen) : Row8 base g xs.length xs.length w xs :=
  ⟨by simp, .inr ⟨g, xs.length, _, rfl, hb, h, Nat.le_refl _, hm, by simp, by rw [List.take_of_length_le (by simp)]⟩⟩
theorem reads_row8 {base g N cap : Nat} {w : World} {ys zs : List Int} (h : Row8 base g N cap w ys) (hl : ys.length = N) (ht : ys.take zs.length = zs) : Reads .u8 w (some ⟨g, 0, none⟩) g 0 zs := by
  refine ⟨fun _ => rfl, fun j hj => ?_⟩
  have hle : zs.length ≤ ys.length := by
    have := congrArg List.length ht
    simp at this; omega
  rw [Nat.zero_add, h.cell (by omega)]
  have : zs.getD j 0 = (ys.take zs.length).getD j 0 := by rw [ht]
  rw [this]
  simp [List.getD, hj]

theorem idem_big (a : Option Addr) (len cap : Nat) (w : World) (hle : 1048576 < len) :
    Calls Try.prog 7 #[.slice a len cap] w fun e w' => e = .returned (.bool true) ∧ Below w.heap.size w w' := by
  go_enter Try.func7, Try.ntmps7
  go_wp2
  go_ret
  exact ⟨rfl, Below.refl _ _⟩
theorem idem_bsl (b off len cap : Nat) (w : World) (hle : len ≤ 1048576) (h0 : 0 < len) (hc : w.cell? ⟨b, off + (len - 1), none⟩ = some (.int .u8 92)) :
    Calls Try.prog 7 #[.slice (some ⟨b, off, none⟩) len cap] w fun e w' => e = .returned (.bool true) ∧ Below w.heap.size w w' := by
  go_enter Try.func7, Try.ntmps7
  go_wp2
  go_ret
  exact ⟨rfl, Below.refl _ _⟩

set_option maxHeartbeats 1600000 in
theorem idem_nil (w : World) :
    Calls Try.prog 7 #[.slice none 0 0] w fun e w' => e = .returned (.bool true) ∧ Below w.heap.size w w' := by
  go_enter Try.func7, Try.ntmps7
  go_wp2_with (first | (go_at_call 25; go_in) | (go_at_call 14; refine (cloneBytes_nil _).mono ?_; rintro e w' ⟨rfl, rfl⟩) | (go_at_call 23; refine (zzCompact_nil _).mono ?_; rintro e w' ⟨rfl, rfl⟩))
  refine (bytesEqual_any none none 0 0 0 0 0 0 0 0 [] [] _ rfl rfl (by omega) (reads_nil _ _ _ _ _) (reads_nil _ _ _ _ _)).mono ?_
  rintro e w1 ⟨rfl, hd⟩
  go_wp2
  refine wp_loop_rounds 1 ?_
  rw [rounds_succ]
  go_wp2
  go_ret
  exact ⟨rfl, hd.below _⟩

set_option maxHeartbeats 3200000 in
theorem idem_any (ad : Addr) (len cap b off : Nat) (xs : List Int) (w : World) (hx : xs.length = len) (hle : len ≤ 1048576) (hrd : Reads .u8 w (some ad) b off xs)
    (hlast : 0 < xs.length → xs.getD (xs.length - 1) 0 ≠ 92) :
    Calls Try.prog 7 #[.slice (some ad) len cap] w fun e w' => e = .returned (.bool true) ∧ Below w.heap.size w w' := by
  have hq := crun_last xs hlast
  have HQ : Hid (crun 0 xs ≠ 2) := hq
  have HX : Hid (xs.length = len) := hx
  have HRD : Hid (Reads .u8 w (some ad) b off xs) := hrd
  have hl0 : 0 < len → ∃ y, ad = ⟨b, off, none⟩ ∧ w.cell? ⟨b, off + (len - 1), none⟩ = some (.int .u8 y) ∧ (y == 92) = false := by
    intro h0
    rw [← hx] at h0 ⊢
    exact ⟨_, Option.some.inj (hrd.pos h0), hrd.cell _ (by omega), by simpa using hlast h0⟩
  have HL : Hid (0 < len → ∃ y, ad = ⟨b, off, none⟩ ∧ w.cell? ⟨b, off + (len - 1), none⟩ = some (.int .u8 y) ∧ (y == 92) = false) := hl0
  clear hq hx hrd hl0 hlast
  go_enter Try.func7, Try.ntmps7
  by_cases h0 : 0 < len
  · obtain ⟨y, rfl, hcy, hyb⟩ := HL.out h0
    clear HL
    go_wp2_with (go_at_call 25; go_in)
    clear hcy hyb h0
    refine (cloneBytes_any _ len cap b off xs _ HX.out (by omega) HRD.out).mono ?_
    rintro e w1 ⟨rfl, hb1, hbel1⟩
    go_wp2_with fail
    have hz1 := hbel1.size
    have hl1 := hb1.lt
    refine (cloneBytes_any _ len len w.heap.size 0 xs _ HX.out (by omega) (reads_blk_all hb1)).mono ?_
    rintro e w2 ⟨rfl, hb2, hbel2⟩
    have hb12 := hb1.below hbel2 hl1
    have hz2 := hbel2.size
    have hbel2' := hbel1.trans (hbel2.mono hz1)
    clear hb1 hbel1 hbel2
    go_wp2_with fail
    have hrow := row8_of_blk w.heap.size hb12 (Nat.le_refl _) (by rw [HX.out]; unfold maxLen; omega)
    rw [HX.out] at hrow
    refine (zzCompact_any w.heap.size w.heap.size len len xs _ HX.out (by omega) (by omega) (by omega) hrow HQ.out).mono ?_
    rintro e w3 ⟨rfl, ⟨ys, hyl, hyt, hrow3⟩, hgr3⟩
    have hb23 := hb2.grown hgr3 (by simp; omega)
    have hz3 := hgr3.size
    have hbel3 := hbel2'.grown hgr3 (by omega) (fun k hk => by cases hk; exact Nat.le_refl _)
    have hle' := comp_length_le xs 0
    have hid := comp_idem xs 0
    have hqc : crun 0 (comp 0 xs) ≠ 2 := by rw [crun_comp]; exact HQ.out
    have hrd3 := reads_row8 hrow3 hyl hyt
    obtain ⟨zs, hzs⟩ : ∃ zs, zs = comp 0 xs := ⟨_, rfl⟩
    rw [HX.out] at hle'
    rw [← hzs] at hle' hid hqc hrd3 ⊢
    obtain ⟨m, hm⟩ : ∃ m, zs.length = m := ⟨_, rfl⟩
    rw [hm] at hle' ⊢
    have HZS : Hid (zs = comp 0 xs) := hzs
    have HM : Hid (zs.length = m) := hm
    have HID : Hid (comp 0 zs = zs) := hid
    have HQC : Hid (crun 0 zs ≠ 2) := hqc
    clear hrow hb12 hbel2' hb2 hyt hyl hrow3 hgr3 hzs hm hid hqc
    go_wp2_with fail
    refine (cloneBytes_any _ m len w.heap.size 0 zs _ HM.out (by omega) hrd3).mono ?_
    rintro e w4 ⟨rfl, hb4, hbel4⟩
    have hb24 := hb23.below hbel4 hb23.lt
    have hz4 := hbel4.size
    have hl4 := hb4.lt
    have hbel4' := hbel3.trans (hbel4.mono (by omega))
    clear hrd3 hb23 hbel3 hbel4
    go_wp2_with fail
    refine (cloneBytes_any _ m m w3.heap.size 0 zs _ HM.out (by omega) (reads_blk_all hb4)).mono ?_
    rintro e w5 ⟨rfl, hb5, hbel5⟩
    have hb25 := hb24.below hbel5 hb24.lt
    have hb45 := hb4.below hbel5 hl4
    have hz5 := hbel5.size
    have hbel5' := hbel4'.trans (hbel5.mono (by omega))
    have hrow5 := row8_of_blk w.heap.size hb5 (by omega) (by rw [HM.out]; unfold maxLen; omega)
    rw [HM.out] at hrow5
    clear hb24 hb4 hbel5 hbel4' hb5
    go_wp2_with fail
    refine (zzCompact_any w.heap.size w4.heap.size m m zs _ HM.out (by omega) (by omega) (by omega) hrow5 HQC.out).mono ?_
    rw [HID.out, HM.out]
    rintro e w6 ⟨rfl, ⟨ys, hyl, hyt, hrow6⟩, hgr6⟩
    have hl45 := hb45.lt
    have hb26 := hb25.grown hgr6 (by simp; have := hb25.lt; omega)
    have hb46 := hb45.grown hgr6 (by simp; omega)
    have hbel6 := hbel5'.grown hgr6 (by omega) (fun k hk => by cases hk; omega)
    have hrd6 := reads_row8 (zs := zs) hrow6 hyl (by rw [HM.out]; exact hyt)
    clear hb25 hb45 hbel5' hrow5 hyl hyt hrow6 hgr6
    go_wp2_with fail
    refine (bytesEqual_any _ _ m m m m w4.heap.size 0 w3.heap.size 0 zs zs _ HM.out HM.out (by omega) hrd6 (reads_blk_all hb46)).mono ?_
    rw [decide_eq_true rfl]
    rintro e w7 ⟨rfl, hd⟩
    go_wp2
    go_loopw [7, 8] (fun sj si wr => ∃ (i : Nat), i ≤ len ∧ si = .int .i64 i ∧ sj = .int .i64 (cpos xs i) ∧ Drawn w6 wr) (fun _ i _ => len - (intOf i).toNat)
    case atStart => exact ⟨0, Nat.zero_le _, rfl, by rw [cpos_zero]; rfl, hd⟩
    case round =>
      obtain ⟨i, hi, rfl, rfl, hdr⟩ := hrel
      have hcp := cpos_le xs i
      by_cases hlt : i < len
      · have hiX : i < xs.length := by rw [HX.out]; exact hlt
        have hco : wr.cell? ⟨w1.heap.size, i, none⟩ = some (.int .u8 (xs.getD i 0)) := (hdr.cell _).trans (hb26.cell hiX)
        have hcs : ∀ j, j < m → wr.cell? ⟨w3.heap.size, j, none⟩ = some (.int .u8 (zs.getD j 0)) := fun j hj => (hdr.cell _).trans (hb46.cell (by rw [HM.out]; exact hj))
        have hlti : (i : Int) < (len : Int) := by omega
        have hi0 : (0 : Int) ≤ (i : Int) := by omega
        cases hk : kept (crun 0 (xs.take i)) (xs.getD i 0)
        · obtain ⟨hs, hne, hnx⟩ := sub_drop hiX hk
          rw [← HZS.out, HM.out] at hne
          have h4 := sp_cases hs
          obtain ⟨c, hc⟩ : ∃ c, c = xs.getD i 0 := ⟨_, rfl⟩
          rw [← hc] at hco hne h4
          have HN : Hid (cpos xs (i + 1) = cpos xs i) := hnx
          clear hs hk hnx hc
          obtain ⟨j, hj⟩ : ∃ j, cpos xs i = j := ⟨_, rfl⟩
          rw [hj] at hne hcp ⊢
          have HJ : Hid (cpos xs i = j) := hj
          clear hj
          by_cases hjm : j < m
          · have hcj := hcs j hjm
            have hne' := hne hjm
            obtain ⟨d, hd'⟩ : ∃ d, d = zs.getD j 0 := ⟨_, rfl⟩
            rw [← hd'] at hcj hne'
            have hbt : (c == d) = false := by simpa using Ne.symm hne'
            have hjmi : (j : Int) < (m : Int) := by omega
            have hj0 : (0 : Int) ≤ (j : Int) := by omega
            clear hne hne' hd' hcs
            go_wp2
            go_quiet (fail)
            rcases h4 with rfl | rfl | rfl | rfl
            all_goals
              go_wp2
              go_roundw
              case rel => exact ⟨i + 1, by omega, by go_num, by rw [HN.out, HJ.out], hdr.more _⟩
              case measure => simp [intOf]; omega
          · have hdj : decide ((j : Int) < (m : Int)) = false := decide_eq_false (by omega)
            clear hcs hne
            go_wp2
            go_quiet (fail)
            rcases h4 with rfl | rfl | rfl | rfl
            all_goals
              go_wp2
              go_roundw
              case rel => exact ⟨i + 1, by omega, by go_num, by rw [HN.out, HJ.out], hdr.more _⟩
              case measure => simp [intOf]; omega
        · obtain ⟨hs, hne, hnx⟩ := sub_keep hiX hk
          rw [← HZS.out] at hs hne
          rw [HM.out] at hne
          have hcj := hcs _ hne
          rw [hs] at hcj
          obtain ⟨c, hc⟩ : ∃ c, c = xs.getD i 0 := ⟨_, rfl⟩
          rw [← hc] at hco hcj
          have HN : Hid (cpos xs (i + 1) = cpos xs i + 1) := hnx
          clear hs hk hnx hc hcs
          obtain ⟨j, hj⟩ : ∃ j, cpos xs i = j := ⟨_, rfl⟩
          rw [hj] at hne hcp hcj ⊢
          have HJ : Hid (cpos xs i = j) := hj
          clear hj
          have hjmi : (j : Int) < (m : Int) := by omega
          have hj0 : (0 : Int) ≤ (j : Int) := by omega
          go_wp2
          go_quiet (fail)
          go_wp2
          go_roundw
          case rel => exact ⟨i + 1, by omega, by go_num, by rw [HN.out, HJ.out]; go_num, hdr.more _⟩
          case measure => simp [intOf]; omega
      · obtain rfl : i = len := by omega
        have hend : cpos xs i = m := by rw [← HX.out, cpos_end, ← HZS.out, HM.out]
        rw [hend]
        go_wp2
        go_ret
        exact ⟨ret_bool' (by simp), hbel6.trans (hdr.below _)⟩
  · go_wp2_with (go_at_call 25; go_in)
    clear HL h0
    refine (cloneBytes_any _ len cap b off xs _ HX.out (by omega) HRD.out).mono ?_
    rintro e w1 ⟨rfl, hb1, hbel1⟩
    go_wp2_with fail
    have hz1 := hbel1.size
    have hl1 := hb1.lt
    refine (cloneBytes_any _ len len w.heap.size 0 xs _ HX.out (by omega) (reads_blk_all hb1)).mono ?_
    rintro e w2 ⟨rfl, hb2, hbel2⟩
    have hb12 := hb1.below hbel2 hl1
    have hz2 := hbel2.size
    have hbel2' := hbel1.trans (hbel2.mono hz1)
    clear hb1 hbel1 hbel2
    go_wp2_with fail
    have hrow := row8_of_blk w.heap.size hb12 (Nat.le_refl _) (by rw [HX.out]; unfold maxLen; omega)
    rw [HX.out] at hrow
    refine (zzCompact_any w.heap.size w.heap.size len len xs _ HX.out (by omega) (by omega) (by omega) hrow HQ.out).mono ?_
    rintro e w3 ⟨rfl, ⟨ys, hyl, hyt, hrow3⟩, hgr3⟩
    have hb23 := hb2.grown hgr3 (by simp; omega)
    have hz3 := hgr3.size
    have hbel3 := hbel2'.grown hgr3 (by omega) (fun k hk => by cases hk; exact Nat.le_refl _)
    have hle' := comp_length_le xs 0
    have hid := comp_idem xs 0
    have hqc : crun 0 (comp 0 xs) ≠ 2 := by rw [crun_comp]; exact HQ.out
    have hrd3 := reads_row8 hrow3 hyl hyt
    obtain ⟨zs, hzs⟩ : ∃ zs, zs = comp 0 xs := ⟨_, rfl⟩
    rw [HX.out] at hle'
    rw [← hzs] at hle' hid hqc hrd3 ⊢
    obtain ⟨m, hm⟩ : ∃ m, zs.length = m := ⟨_, rfl⟩
    rw [hm] at hle' ⊢
    have HZS : Hid (zs = comp 0 xs) := hzs
    have HM : Hid (zs.length = m) := hm
    have HID : Hid (comp 0 zs = zs) := hid
    have HQC : Hid (crun 0 zs ≠ 2) := hqc
    clear hrow hb12 hbel2' hb2 hyt hyl hrow3 hgr3 hzs hm hid hqc
    go_wp2_with fail
    refine (cloneBytes_any _ m len w.heap.size 0 zs _ HM.out (by omega) hrd3).mono ?_
    rintro e w4 ⟨rfl, hb4, hbel4⟩
    have hb24 := hb23.below hbel4 hb23.lt
    have hz4 := hbel4.size
    have hl4 := hb4.lt
    have hbel4' := hbel3.trans (hbel4.mono (by omega))
    clear hrd3 hb23 hbel3 hbel4
    go_wp2_with fail
    refine (cloneBytes_any _ m m w3.heap.size 0 zs _ HM.out (by omega) (reads_blk_all hb4)).mono ?_
    rintro e w5 ⟨rfl, hb5, hbel5⟩
    have hb25 := hb24.below hbel5 hb24.lt
    have hb45 := hb4.below hbel5 hl4
    have hz5 := hbel5.size
    have hbel5' := hbel4'.trans (hbel5.mono (by omega))
    have hrow5 := row8_of_blk w.heap.size hb5 (by omega) (by rw [HM.out]; unfold maxLen; omega)
    rw [HM.out] at hrow5
    clear hb24 hb4 hbel5 hbel4' hb5
    go_wp2_with fail
    refine (zzCompact_any w.heap.size w4.heap.size m m zs _ HM.out (by omega) (by omega) (by omega) hrow5 HQC.out).mono ?_
    rw [HID.out, HM.out]
    rintro e w6 ⟨rfl, ⟨ys, hyl, hyt, hrow6⟩, hgr6⟩
    have hl45 := hb45.lt
    have hb26 := hb25.grown hgr6 (by simp; have := hb25.lt; omega)
    have hb46 := hb45.grown hgr6 (by simp; omega)
    have hbel6 := hbel5'.grown hgr6 (by omega) (fun k hk => by cases hk; omega)
    have hrd6 := reads_row8 (zs := zs) hrow6 hyl (by rw [HM.out]; exact hyt)
    clear hb25 hb45 hbel5' hrow5 hyl hyt hrow6 hgr6
    go_wp2_with fail
    refine (bytesEqual_any _ _ m m m m w4.heap.size 0 w3.heap.size 0 zs zs _ HM.out HM.out (by omega) hrd6 (reads_blk_all hb46)).mono ?_
    rw [decide_eq_true rfl]
    rintro e w7 ⟨rfl, hd⟩
    go_wp2
    go_loopw [7, 8] (fun sj si wr => ∃ (i : Nat), i ≤ len ∧ si = .int .i64 i ∧ sj = .int .i64 (cpos xs i) ∧ Drawn w6 wr) (fun _ i _ => len - (intOf i).toNat)
    case atStart => exact ⟨0, Nat.zero_le _, rfl, by rw [cpos_zero]; rfl, hd⟩
    case round =>
      obtain ⟨i, hi, rfl, rfl, hdr⟩ := hrel
      have hcp := cpos_le xs i
      by_cases hlt : i < len
      · have hiX : i < xs.length := by rw [HX.out]; exact hlt
        have hco : wr.cell? ⟨w1.heap.size, i, none⟩ = some (.int .u8 (xs.getD i 0)) := (hdr.cell _).trans (hb26.cell hiX)
        have hcs : ∀ j, j < m → wr.cell? ⟨w3.heap.size, j, none⟩ = some (.int .u8 (zs.getD j 0)) := fun j hj => (hdr.cell _).trans (hb46.cell (by rw [HM.out]; exact hj))
        have hlti : (i : Int) < (len : Int) := by omega
        have hi0 : (0 : Int) ≤ (i : Int) := by omega
        cases hk : kept (crun 0 (xs.take i)) (xs.getD i 0)
        · obtain ⟨hs, hne, hnx⟩ := sub_drop hiX hk
          rw [← HZS.out, HM.out] at hne
          have h4 := sp_cases hs
          obtain ⟨c, hc⟩ : ∃ c, c = xs.getD i 0 := ⟨_, rfl⟩
          rw [← hc] at hco hne h4
          have HN : Hid (cpos xs (i + 1) = cpos xs i) := hnx
          clear hs hk hnx hc
          obtain ⟨j, hj⟩ : ∃ j, cpos xs i = j := ⟨_, rfl⟩
          rw [hj] at hne hcp ⊢
          have HJ : Hid (cpos xs i = j) := hj
          clear hj
          by_cases hjm : j < m
          · have hcj := hcs j hjm
            have hne' := hne hjm
            obtain ⟨d, hd'⟩ : ∃ d, d = zs.getD j 0 := ⟨_, rfl⟩
            rw [← hd'] at hcj hne'
            have hbt : (c == d) = false := by simpa using Ne.symm hne'
            have hjmi : (j : Int) < (m : Int) := by omega
            have hj0 : (0 : Int) ≤ (j : Int) := by omega
            clear hne hne' hd' hcs
            go_wp2
            go_quiet (fail)
            rcases h4 with rfl | rfl | rfl | rfl
            all_goals
              go_wp2
              go_roundw
              case rel => exact ⟨i + 1, by omega, by go_num, by rw [HN.out, HJ.out], hdr.more _⟩
              case measure => simp [intOf]; omega
          · have hdj : decide ((j : Int) < (m : Int)) = false := decide_eq_false (by omega)
            clear hcs hne
            go_wp2
            go_quiet (fail)
            rcases h4 with rfl | rfl | rfl | rfl
            all_goals
              go_wp2
              go_roundw
              case rel => exact ⟨i + 1, by omega, by go_num, by rw [HN.out, HJ.out], hdr.more _⟩
              case measure => simp [intOf]; omega
        · obtain ⟨hs, hne, hnx⟩ := sub_keep hiX hk
          rw [← HZS.out] at hs hne
          rw [HM.out] at hne
          have hcj := hcs _ hne
          rw [hs] at hcj
          obtain ⟨c, hc⟩ : ∃ c, c = xs.getD i 0 := ⟨_, rfl⟩
          rw [← hc] at hco hcj
          have HN : Hid (cpos xs (i + 1) = cpos xs i + 1) := hnx
          clear hs hk hnx hc hcs
          obtain ⟨j, hj⟩ : ∃ j, cpos xs i = j := ⟨_, rfl⟩
          rw [hj] at hne hcp hcj ⊢
          have HJ : Hid (cpos xs i = j) := hj
          clear hj
          have hjmi : (j : Int) < (m : Int) := by omega
          have hj0 : (0 : Int) ≤ (j : Int) := by omega
          go_wp2
          go_quiet (fail)
          go_wp2
          go_roundw
          case rel => exact ⟨i + 1, by omega, by go_num, by rw [HN.out, HJ.out]; go_num, hdr.more _⟩
          case measure => simp [intOf]; omega
      · obtain rfl : i = len := by omega
        have hend : cpos xs i = m := by rw [← HX.out, cpos_end, ← HZS.out, HM.out]
        rw [hend]
        go_wp2
        go_ret
        exact ⟨ret_bool' (by simp), hbel6.trans (hdr.below _)⟩

end Go.Proofs.Qxb6000752a
