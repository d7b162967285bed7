/-
  The walk of FnCompactInPlaceGivesCompactForm (6).
-/
import Derived.Test.Qxb6000752aReady
import Derived.Test.Qxb6000752aCompact
import Derived.Test.Qxb6000752aEq
import Derived.Deep.DeepCutAuto
namespace Go.Proofs.Qxb6000752a
open Go.RowKit

theorem ready_start (w : World) (wv : Value) : Ready w wv 0 (w.alloc (.cells #[.slice none 0 0, .slice none 0 0, wv, .int .i64 0] 33)) := by
  refine ⟨[], [], 0, ⟨⟨none, 0, none, 0, heap_alloc_new w _, World.ownsRow_nil _ _ _ _, World.ownsRow_nil _ _ _ _, by simp [Value.ownBlock], by simp [Value.ownBlock], by simp [Value.ownBlock]⟩, (Below.refl _ _).alloc (Nat.le_refl _) _⟩, ⟨rfl, rfl⟩, Nat.le_refl _, Nat.le_refl _⟩

/-- A piece of the text: its own list. -/
def PieceOk (w : World) (a : Option Addr) (n : Nat) : Prop := ∃ b off xs, xs.length = n ∧ Reads .u8 w a b off xs ∧ ∀ j, 0 ≤ xs.getD j 0 ∧ xs.getD j 0 ≤ 255

theorem piece_nil (w : World) (a : Option Addr) {n : Nat} (h : n = 0) : PieceOk w a n := ⟨0, 0, [], by simp [h], reads_nil _ _ _ _ _, fun j => by simp⟩
theorem piece_mid {w : World} {tb tf at_ n : Nat} {TS : List Int} (h : Reads .u8 w (some ⟨tb, tf, none⟩) tb tf TS) (hb : ∀ j, 0 ≤ TS.getD j 0 ∧ TS.getD j 0 ≤ 255) (hl : at_ + n ≤ TS.length) : PieceOk w (some ⟨tb, tf + at_, none⟩) n := by
  have e : ∀ j, j < n → ((TS.drop at_).take n).getD j 0 = TS.getD (at_ + j) 0 := fun j hj => by simp [List.getD, hj]
  refine ⟨tb, tf + at_, (TS.drop at_).take n, by simp; omega, ⟨fun _ => rfl, fun j hj => ?_⟩, fun j => ?_⟩
  · have hj' : j < n := by simp at hj; omega
    rw [e j hj', Nat.add_assoc]; exact h.cell (at_ + j) (by omega)
  · by_cases hj : j < n
    · rw [e j hj]; exact hb _
    · have : ((TS.drop at_).take n).getD j 0 = 0 := by
        simp only [List.getD]; rw [List.getElem?_eq_none (by simp; omega)]; rfl
      rw [this]; omega
theorem slice_len {a : Option Addr} {n m c : Nat} (h : n = m) : Value.slice a n c = .slice a m c := by rw [h]
theorem O8.reads {base : Nat} {w : World} {a : Option Addr} {c : Nat} {xs : List Int} (h : O8 base w (.slice a xs.length c) xs) : ∃ g, Reads .u8 w a g 0 xs := by
  rcases h.2 with ⟨hv, hn⟩ | ⟨g, cap, cur, hv, _⟩
  · have : xs = [] := List.eq_nil_of_length_eq_zero hn
    subst this
    exact ⟨0, reads_nil _ _ _ _ _⟩
  · simp only [Value.slice.injEq] at hv
    refine ⟨g, fun _ => hv.1, fun j hj => ?_⟩
    have h' : w.ownsRow base 5 1 (.slice (some ⟨g, 0, none⟩) xs.length c) xs.length (xs.map (Value.int .u8)) := by rw [← hv.1]; exact h
    rw [Nat.zero_add, World.ownsRow.cellAt h' j (by omega)]
    simp [List.getElem?_eq_getElem hj]
theorem O8.cases {base : Nat} {w : World} {a : Option Addr} {c : Nat} {xs : List Int} (h : O8 base w (.slice a xs.length c) xs) : (a = none ∧ c = 0 ∧ xs = []) ∨ ∃ g, a = some ⟨g, 0, none⟩ ∧ xs.length ≤ c ∧ c ≤ 9223372036854775807 ∧ Row8 base g xs.length c w xs := by
  rcases h.2 with ⟨hv, hn⟩ | ⟨g, cap, cur, hv, _, _, h1, h2, _⟩
  · have : xs = [] := List.eq_nil_of_length_eq_zero hn
    simp only [Value.slice.injEq] at hv
    exact .inl ⟨hv.1, hv.2.2, this⟩
  · simp only [Value.slice.injEq] at hv
    obtain ⟨e1, _, e3⟩ := hv
    subst e3
    unfold maxLen at h2
    refine .inr ⟨g, e1, h1, h2, ?_⟩
    unfold Row8
    rw [← e1]; exact h

/-- What the law's last statements find. -/
theorem ready_open {w0 w : World} {wv : Value} {n : Nat} (h : Ready w0 wv n w) : ∃ C S ca cc sa sc, w.cell? ⟨w0.heap.size, 0, none⟩ = some (.slice ca C.length cc) ∧ w.cell? ⟨w0.heap.size, 1, none⟩ = some (.slice sa S.length sc) ∧
    comp 0 S = C ∧ crun 0 S = 0 ∧ C.length ≤ n ∧ S.length ≤ n ∧ Below w0.heap.size w0 w ∧ ∃ k, Jb w0.heap.size w w0.heap.size wv C S k ca cc sa sc := by
  obtain ⟨C, S, k, ⟨⟨ca, cc, sa, sc, h1⟩, hb⟩, ⟨h2, h3⟩, h4, h5⟩ := h
  exact ⟨C, S, ca, cc, sa, sc, blkcell h1.blk 0, blkcell h1.blk 1, h2, h3, h4, h5, hb, k, h1⟩

theorem blklt' {w : World} {a : Addr} {v : Value} (h : w.cell? a = some v) : a.block < w.heap.size := World.block_lt_of_cell? w a h
theorem val_int8 {k : IntKind} {a b : Int} (h : a = b) : Value.int k a = .int k b := by rw [h]

set_option maxHeartbeats 3200000 in
set_option maxRecDepth 100000 in
theorem form_any (ka : Option Addr) (kl kc kb ko : Nat) (ta : Option Addr) (tl tc tb tf : Nat) (wa : Option Addr) (wl wq wb wo : Nat) (KS TS WS : List Int) (w : World) (hle : kl + tl + wl ≤ 1048576) (htc : tl ≤ tc) (htc2 : tc ≤ 9223372036854775807)
    (hk : KS.length = kl) (ht : TS.length = tl) (hw : WS.length = wl) (hnt : ta = none → tl = 0 ∧ tc = 0)
    (RK : Reads .u8 w ka kb ko KS) (RT : Reads .u8 w ta tb tf TS) (RW : Reads .u8 w wa wb wo WS) (bk : ∀ j, 0 ≤ KS.getD j 0 ∧ KS.getD j 0 ≤ 255) (bt : ∀ j, 0 ≤ TS.getD j 0 ∧ TS.getD j 0 ≤ 255) (bw : ∀ j, 0 ≤ WS.getD j 0 ∧ WS.getD j 0 ≤ 255) :
    Calls Try.prog 6 #[.slice ka kl kc, .slice ta tl tc, .slice wa wl wq] w fun e w' => e = .returned (.bool true) ∧ Below w.heap.size w w' := by
  have HK : Hid (KS.length = kl) := hk
  have HT : Hid (TS.length = tl) := ht
  have HW : Hid (WS.length = wl) := hw
  have HNT : Hid (ta = none → tl = 0 ∧ tc = 0) := hnt
  have HRK : Hid (Reads .u8 w ka kb ko KS) := RK
  have HRT : Hid (Reads .u8 w ta tb tf TS) := RT
  have HRW : Hid (Reads .u8 w wa wb wo WS) := RW
  have HBK : Hid (∀ j, 0 ≤ KS.getD j 0 ∧ KS.getD j 0 ≤ 255) := bk
  have HBT : Hid (∀ j, 0 ≤ TS.getD j 0 ∧ TS.getD j 0 ≤ 255) := bt
  have HBW : Hid (∀ j, 0 ≤ WS.getD j 0 ∧ WS.getD j 0 ≤ 255) := bw
  have hR := ready_start w (.slice wa wl wq)
  have hwl : wl ≤ 1048576 := by omega
  clear hk ht hw hnt RK RT RW bk bt bw
  go_enter Try.func6, Try.ntmps6
  go_wp2_with (first | (go_at_call 18; go_in) | (go_at_call 19; refine (gap_r HW.out hwl HRW.out HBW.out hR (by omega)).mono ?_; clear hR; rintro e w' ⟨rfl, hR⟩) | (go_at_call 20; refine (both_r _ (tok_one (by decide) (by decide)) hR (by omega)).mono ?_; clear hR; rintro e w' ⟨rfl, hR⟩))
  go_loopw [8, 9] (fun sa si wr => ∃ (k at_ : Nat), k ≤ kl ∧ at_ ≤ tl ∧ si = .int .i64 k ∧ sa = .int .i64 at_ ∧ Ready w (.slice wa wl wq) (500 * k + 100) wr) (fun _ i _ => kl - (intOf i).toNat)
  case atStart => exact ⟨0, 0, Nat.zero_le _, Nat.zero_le _, rfl, rfl, hR.more (by omega)⟩
  case round =>
    clear hR
    obtain ⟨k, at_, hkl, hatl, rfl, rfl, hR⟩ := hrel
    by_cases hlt : k < kl
    · go_upto_if 39 with fail
      go_cut [] (fun wx => Ready w (.slice wa wl wq) (500 * k + 116) wx)
      case first =>
        by_cases h0 : k = 0
        · have h0' : k < 1 := by omega
          clear h0
          go_wp2_with fail
          go_meet
          exact hR.more (by omega)
        · have h0' : 0 < k := by omega
          clear h0
          go_wp2_with (first | (go_at_call 19; refine (gap_r HW.out hwl HRW.out HBW.out hR (by omega)).mono ?_; clear hR; rintro e w' ⟨rfl, hR⟩) | (go_at_call 20; refine (both_r _ (tok_one (by decide) (by decide)) hR (by omega)).mono ?_; clear hR; rintro e w' ⟨rfl, hR⟩))
          go_meet
          exact hR.more (by omega)
      case rest =>
        clear hR
        obtain rfl := HRK.out.pos (by rw [HK.out]; omega)
        have hR := hcut
        clear hcut
        go_wp2_with fail
        refine (gap_r HW.out hwl HRW.out HBW.out hR (by omega)).mono ?_
        clear hR
        rintro e w1 ⟨rfl, hR⟩
        have hcx : w1.cell? ⟨kb, ko + k, none⟩ = some (.int .u8 (KS.getD k 0)) := (hR.below.cell (by exact HRK.out.lt (by rw [HK.out]; omega))).trans (HRK.out.cell k (by rw [HK.out]; exact hlt))
        have hcb := HBK.out k
        obtain ⟨x, hx⟩ : ∃ x, x = KS.getD k 0 := ⟨_, rfl⟩
        rw [← hx] at hcx hcb
        obtain ⟨hx0, hx1⟩ := hcb
        obtain ⟨q, hq⟩ : ∃ q : Nat, x / 8 = (q : Int) := ⟨(x / 8).toNat, by omega⟩
        have hq31 : q ≤ 31 := by omega
        clear hx
        go_upto_if 55 with fail
        obtain ⟨n, hn⟩ : ∃ n : Nat, n = if tl - at_ < q then tl - at_ else q := ⟨_, rfl⟩
        have HN : Hid (n = if tl - at_ < q then tl - at_ else q) := hn
        clear hn
        go_cut [11] (fun nn wx => nn = .int .i64 n ∧ wx = w1)
        case first =>
          by_cases hqn : tl - at_ < q
          · have hd' : (tl : Int) - (at_ : Int) < (q : Int) := by omega
            have hn : n = tl - at_ := by rw [HN.out, if_pos hqn]
            have HN2 : Hid (n = tl - at_) := hn
            clear hqn hn
            go_wp2_with fail
            go_meet
            have hn := HN2.out
            exact ⟨val_int8 (by omega), rfl⟩
          · have hd' : (q : Int) ≤ (tl : Int) - (at_ : Int) := by omega
            have hn : n = q := by rw [HN.out, if_neg hqn]
            have HN2 : Hid (n = q) := hn
            clear hqn hn
            go_wp2_with fail
            go_meet
            exact ⟨val_int8 (by rw [HN2.out]), rfl⟩
        case rest =>
          obtain ⟨rfl, rfl⟩ := hcut
          have hna : n ≤ tl - at_ := by have := HN.out; split at this <;> omega
          have hn31 : n ≤ 31 := by have := HN.out; split at this <;> omega
          clear HN
          go_upto_region 25 with fail
          go_cut [12] (fun p wx => (∃ A c, p = .slice A n c ∧ PieceOk w A n) ∧ wx = wc)
          case first =>
            by_cases h0 : 0 < n
            · obtain rfl := HRT.out.pos (by rw [HT.out]; omega)
              have hne : ¬ tc = at_ := by omega
              have hp : PieceOk w (some ⟨tb, tf + at_, none⟩) n := piece_mid HRT.out HBT.out (by rw [HT.out]; omega)
              have HP : Hid (PieceOk w (some ⟨tb, tf + at_, none⟩) n) := hp
              clear hp
              go_wp2_with fail
              go_meet
              exact ⟨⟨_, _, slice_len (by omega), HP.out⟩, rfl⟩
            · have hn0 : n < 1 := by omega
              have HP : Hid (∀ A, PieceOk w A n) := fun A => piece_nil w A (by omega)
              cases ta with
              | none =>
                obtain ⟨h1, h2⟩ := HNT.out rfl
                subst h1
                subst h2
                clear h0
                go_wp2_with fail
                go_meet
                exact ⟨⟨_, _, slice_len (by omega), HP.out _⟩, rfl⟩
              | some ad =>
                clear h0
                by_cases hta : tc = at_
                · subst hta
                  go_wp2_with fail
                  go_meet
                  exact ⟨⟨_, _, slice_len (by omega), HP.out _⟩, rfl⟩
                · go_wp2_with fail
                  go_meet
                  exact ⟨⟨_, _, slice_len (by omega), HP.out _⟩, rfl⟩
          case rest =>
            obtain ⟨⟨A, c, rfl, hpo⟩, rfl⟩ := hcut
            obtain ⟨pb, po, px, hpx, hpr, hpb⟩ := hpo
            have HPX : Hid (px.length = n) := hpx
            have HPR : Hid (Reads .u8 w A pb po px) := hpr
            have HPB : Hid (∀ j, 0 ≤ px.getD j 0 ∧ px.getD j 0 ≤ 255) := hpb
            clear hpx hpr hpb hcx hq
            rcases (show x % 8 = 0 ∨ x % 8 = 1 ∨ x % 8 = 2 ∨ x % 8 = 3 ∨ x % 8 = 4 ∨ x % 8 = 5 ∨ x % 8 = 6 ∨ x % 8 = 7 from by omega) with e8 | e8 | e8 | e8 | e8 | e8 | e8 | e8
            · have b0 : (x % 8 == 0) = true := by rw [e8]; rfl
              clear e8
              go_wp2_with (first | (go_at_call 19; refine (gap_r HW.out hwl HRW.out HBW.out hR (by omega)).mono ?_; clear hR; rintro e w' ⟨rfl, hR⟩) | (go_at_call 20; refine (both_r _ (tok_one (by decide) (by decide)) hR (by omega)).mono ?_; clear hR; rintro e w' ⟨rfl, hR⟩) | (go_at_call 21; refine (word_r _ (by decide) (by unfold Tok; decide) hR (by omega)).mono ?_; clear hR; rintro e w' ⟨rfl, hR⟩) | (go_at_call 22; refine (str_r A n c pb po px HPX.out hn31 HPR.out HPB.out hR (by omega)).mono ?_; clear hR; rintro e w' ⟨rfl, hR⟩))
              go_roundw
              case rel => first | exact ⟨k + 1, at_ + n, by omega, by omega, by go_num, by go_num, hR.more (by omega)⟩ | ((repeat apply Exists.intro); exact ⟨⟨k + 1, at_ + n, by omega, by omega, by go_num, by go_num, hR.more (by omega)⟩, rfl⟩)
              case measure => simp [intOf]; omega
            · have b0 : (x % 8 == 0) = false := by rw [e8]; rfl
              have b1 : (x % 8 == 1) = true := by rw [e8]; rfl
              clear e8
              go_wp2_with (first | (go_at_call 19; refine (gap_r HW.out hwl HRW.out HBW.out hR (by omega)).mono ?_; clear hR; rintro e w' ⟨rfl, hR⟩) | (go_at_call 20; refine (both_r _ (tok_one (by decide) (by decide)) hR (by omega)).mono ?_; clear hR; rintro e w' ⟨rfl, hR⟩) | (go_at_call 21; refine (word_r _ (by decide) (by unfold Tok; decide) hR (by omega)).mono ?_; clear hR; rintro e w' ⟨rfl, hR⟩) | (go_at_call 22; refine (str_r A n c pb po px HPX.out hn31 HPR.out HPB.out hR (by omega)).mono ?_; clear hR; rintro e w' ⟨rfl, hR⟩))
              go_roundw
              case rel => first | exact ⟨k + 1, at_ + n, by omega, by omega, by go_num, by go_num, hR.more (by omega)⟩ | ((repeat apply Exists.intro); exact ⟨⟨k + 1, at_ + n, by omega, by omega, by go_num, by go_num, hR.more (by omega)⟩, rfl⟩)
              case measure => simp [intOf]; omega
            · have b0 : (x % 8 == 0) = false := by rw [e8]; rfl
              have b1 : (x % 8 == 1) = false := by rw [e8]; rfl
              have b2 : (x % 8 == 2) = true := by rw [e8]; rfl
              clear e8
              go_wp2_with (first | (go_at_call 19; refine (gap_r HW.out hwl HRW.out HBW.out hR (by omega)).mono ?_; clear hR; rintro e w' ⟨rfl, hR⟩) | (go_at_call 20; refine (both_r _ (tok_one (by decide) (by decide)) hR (by omega)).mono ?_; clear hR; rintro e w' ⟨rfl, hR⟩) | (go_at_call 21; refine (word_r _ (by decide) (by unfold Tok; decide) hR (by omega)).mono ?_; clear hR; rintro e w' ⟨rfl, hR⟩) | (go_at_call 22; refine (str_r A n c pb po px HPX.out hn31 HPR.out HPB.out hR (by omega)).mono ?_; clear hR; rintro e w' ⟨rfl, hR⟩))
              go_roundw
              case rel => first | exact ⟨k + 1, at_ + n, by omega, by omega, by go_num, by go_num, hR.more (by omega)⟩ | ((repeat apply Exists.intro); exact ⟨⟨k + 1, at_ + n, by omega, by omega, by go_num, by go_num, hR.more (by omega)⟩, rfl⟩)
              case measure => simp [intOf]; omega
            · have b0 : (x % 8 == 0) = false := by rw [e8]; rfl
              have b1 : (x % 8 == 1) = false := by rw [e8]; rfl
              have b2 : (x % 8 == 2) = false := by rw [e8]; rfl
              have b3 : (x % 8 == 3) = true := by rw [e8]; rfl
              clear e8
              go_wp2_with (first | (go_at_call 19; refine (gap_r HW.out hwl HRW.out HBW.out hR (by omega)).mono ?_; clear hR; rintro e w' ⟨rfl, hR⟩) | (go_at_call 20; refine (both_r _ (tok_one (by decide) (by decide)) hR (by omega)).mono ?_; clear hR; rintro e w' ⟨rfl, hR⟩) | (go_at_call 21; refine (word_r _ (by decide) (by unfold Tok; decide) hR (by omega)).mono ?_; clear hR; rintro e w' ⟨rfl, hR⟩) | (go_at_call 22; refine (str_r A n c pb po px HPX.out hn31 HPR.out HPB.out hR (by omega)).mono ?_; clear hR; rintro e w' ⟨rfl, hR⟩))
              go_roundw
              case rel => first | exact ⟨k + 1, at_ + n, by omega, by omega, by go_num, by go_num, hR.more (by omega)⟩ | ((repeat apply Exists.intro); exact ⟨⟨k + 1, at_ + n, by omega, by omega, by go_num, by go_num, hR.more (by omega)⟩, rfl⟩)
              case measure => simp [intOf]; omega
            · have b0 : (x % 8 == 0) = false := by rw [e8]; rfl
              have b1 : (x % 8 == 1) = false := by rw [e8]; rfl
              have b2 : (x % 8 == 2) = false := by rw [e8]; rfl
              have b3 : (x % 8 == 3) = false := by rw [e8]; rfl
              have b4 : (x % 8 == 4) = true := by rw [e8]; rfl
              clear e8
              go_wp2_with (first | (go_at_call 19; refine (gap_r HW.out hwl HRW.out HBW.out hR (by omega)).mono ?_; clear hR; rintro e w' ⟨rfl, hR⟩) | (go_at_call 20; refine (both_r _ (tok_one (by decide) (by decide)) hR (by omega)).mono ?_; clear hR; rintro e w' ⟨rfl, hR⟩) | (go_at_call 21; refine (word_r _ (by decide) (by unfold Tok; decide) hR (by omega)).mono ?_; clear hR; rintro e w' ⟨rfl, hR⟩) | (go_at_call 22; refine (str_r A n c pb po px HPX.out hn31 HPR.out HPB.out hR (by omega)).mono ?_; clear hR; rintro e w' ⟨rfl, hR⟩))
              go_roundw
              case rel => first | exact ⟨k + 1, at_ + n, by omega, by omega, by go_num, by go_num, hR.more (by omega)⟩ | ((repeat apply Exists.intro); exact ⟨⟨k + 1, at_ + n, by omega, by omega, by go_num, by go_num, hR.more (by omega)⟩, rfl⟩)
              case measure => simp [intOf]; omega
            · have b0 : (x % 8 == 0) = false := by rw [e8]; rfl
              have b1 : (x % 8 == 1) = false := by rw [e8]; rfl
              have b2 : (x % 8 == 2) = false := by rw [e8]; rfl
              have b3 : (x % 8 == 3) = false := by rw [e8]; rfl
              have b4 : (x % 8 == 4) = false := by rw [e8]; rfl
              have b5 : (x % 8 == 5) = true := by rw [e8]; rfl
              clear e8
              go_wp2_with (first | (go_at_call 19; refine (gap_r HW.out hwl HRW.out HBW.out hR (by omega)).mono ?_; clear hR; rintro e w' ⟨rfl, hR⟩) | (go_at_call 20; refine (both_r _ (tok_one (by decide) (by decide)) hR (by omega)).mono ?_; clear hR; rintro e w' ⟨rfl, hR⟩) | (go_at_call 21; refine (word_r _ (by decide) (by unfold Tok; decide) hR (by omega)).mono ?_; clear hR; rintro e w' ⟨rfl, hR⟩) | (go_at_call 22; refine (str_r A n c pb po px HPX.out hn31 HPR.out HPB.out hR (by omega)).mono ?_; clear hR; rintro e w' ⟨rfl, hR⟩))
              go_roundw
              case rel => first | exact ⟨k + 1, at_ + n, by omega, by omega, by go_num, by go_num, hR.more (by omega)⟩ | ((repeat apply Exists.intro); exact ⟨⟨k + 1, at_ + n, by omega, by omega, by go_num, by go_num, hR.more (by omega)⟩, rfl⟩)
              case measure => simp [intOf]; omega
            · have b0 : (x % 8 == 0) = false := by rw [e8]; rfl
              have b1 : (x % 8 == 1) = false := by rw [e8]; rfl
              have b2 : (x % 8 == 2) = false := by rw [e8]; rfl
              have b3 : (x % 8 == 3) = false := by rw [e8]; rfl
              have b4 : (x % 8 == 4) = false := by rw [e8]; rfl
              have b5 : (x % 8 == 5) = false := by rw [e8]; rfl
              have b6 : (x % 8 == 6) = true := by rw [e8]; rfl
              clear e8
              go_wp2_with (first | (go_at_call 19; refine (gap_r HW.out hwl HRW.out HBW.out hR (by omega)).mono ?_; clear hR; rintro e w' ⟨rfl, hR⟩) | (go_at_call 20; refine (both_r _ (tok_one (by decide) (by decide)) hR (by omega)).mono ?_; clear hR; rintro e w' ⟨rfl, hR⟩) | (go_at_call 21; refine (word_r _ (by decide) (by unfold Tok; decide) hR (by omega)).mono ?_; clear hR; rintro e w' ⟨rfl, hR⟩) | (go_at_call 22; refine (str_r A n c pb po px HPX.out hn31 HPR.out HPB.out hR (by omega)).mono ?_; clear hR; rintro e w' ⟨rfl, hR⟩))
              go_roundw
              case rel => first | exact ⟨k + 1, at_ + n, by omega, by omega, by go_num, by go_num, hR.more (by omega)⟩ | ((repeat apply Exists.intro); exact ⟨⟨k + 1, at_ + n, by omega, by omega, by go_num, by go_num, hR.more (by omega)⟩, rfl⟩)
              case measure => simp [intOf]; omega
            · have b0 : (x % 8 == 0) = false := by rw [e8]; rfl
              have b1 : (x % 8 == 1) = false := by rw [e8]; rfl
              have b2 : (x % 8 == 2) = false := by rw [e8]; rfl
              have b3 : (x % 8 == 3) = false := by rw [e8]; rfl
              have b4 : (x % 8 == 4) = false := by rw [e8]; rfl
              have b5 : (x % 8 == 5) = false := by rw [e8]; rfl
              have b6 : (x % 8 == 6) = false := by rw [e8]; rfl
              clear e8
              go_wp2_with (first | (go_at_call 19; refine (gap_r HW.out hwl HRW.out HBW.out hR (by omega)).mono ?_; clear hR; rintro e w' ⟨rfl, hR⟩) | (go_at_call 20; refine (both_r _ (tok_one (by decide) (by decide)) hR (by omega)).mono ?_; clear hR; rintro e w' ⟨rfl, hR⟩) | (go_at_call 21; refine (word_r _ (by decide) (by unfold Tok; decide) hR (by omega)).mono ?_; clear hR; rintro e w' ⟨rfl, hR⟩) | (go_at_call 22; refine (str_r A n c pb po px HPX.out hn31 HPR.out HPB.out hR (by omega)).mono ?_; clear hR; rintro e w' ⟨rfl, hR⟩))
              go_roundw
              case rel => first | exact ⟨k + 1, at_ + n, by omega, by omega, by go_num, by go_num, hR.more (by omega)⟩ | ((repeat apply Exists.intro); exact ⟨⟨k + 1, at_ + n, by omega, by omega, by go_num, by go_num, hR.more (by omega)⟩, rfl⟩)
              case measure => simp [intOf]; omega
    · obtain rfl : k = kl := by omega
      go_wp2_with fail
      refine (gap_r HW.out hwl HRW.out HBW.out hR (by omega)).mono ?_
      clear hR
      rintro e w1 ⟨rfl, hR⟩
      go_wp2_with fail
      refine (both_r 93 (tok_one (by decide) (by decide)) hR (by omega)).mono ?_
      clear hR
      rintro e w2 ⟨rfl, hR⟩
      go_wp2_with fail
      refine (gap_r HW.out hwl HRW.out HBW.out hR (by omega)).mono ?_
      clear hR
      rintro e w3 ⟨rfl, hR⟩
      obtain ⟨C, S, ca, cc, sa, sc, d0, d1, hC, hS0, hCl, hSl, hbel, m, hJb⟩ := ready_open hR
      have hos := hJb.os
      have hoc := hJb.oc
      have hncs := hJb.ncs
      have hns := hJb.ns
      clear hJb hR
      rcases hos.cases with ⟨rfl, rfl, rfl⟩ | ⟨g, rfl, hs1, hs2, hrow⟩
      · have hC0 : C = [] := hC.symm
        subst hC0
        have d1' : w3.cell? ⟨w.heap.size, 1, none⟩ = some (.slice none 0 0) := d1
        have d0' : w3.cell? ⟨w.heap.size, 0, none⟩ = some (.slice ca 0 cc) := d0
        clear d0 d1 hos hoc hncs hns hC hS0 hCl hSl
        go_wp2_with fail
        refine (zzCompact_nil _).mono ?_
        rintro e w4 ⟨rfl, rfl⟩
        go_wp2_with fail
        refine (bytesEqual_any none ca 0 0 0 cc 0 0 0 0 [] [] _ rfl rfl (by omega) (reads_nil _ _ _ _ _) (reads_nil _ _ _ _ _)).mono ?_
        rw [decide_eq_true rfl]
        rintro e w5 ⟨rfl, hd⟩
        go_wp2
        go_ret
        exact ⟨rfl, hbel.trans (hd.below _)⟩
      · have HROW : Hid (Row8 w.heap.size g S.length sc w3 S) := hrow
        have HCR : Hid (crun 0 S ≠ 2) := by rw [Hid, hS0]; decide
        have HOC : Hid (O8 w.heap.size w3 (.slice ca C.length cc) C) := hoc
        have HCS : Hid (∀ k, (Value.slice ca C.length cc).ownBlock = some k → (Value.slice (some ⟨g, 0, none⟩) S.length sc).ownBlock ≠ some k) := hncs
        have HNS : Hid (g ≠ w.heap.size) := fun e => hns (by rw [e]; rfl)
        have HGB : Hid (w.heap.size ≤ g) := (hos.lt g rfl).1
        have HCC : Hid (comp 0 S = C) := hC
        obtain ⟨N, hN⟩ : ∃ N, N = S.length := ⟨_, rfl⟩
        obtain ⟨M, hM⟩ : ∃ M, M = C.length := ⟨_, rfl⟩
        have HN : Hid (N = S.length) := hN
        have HM : Hid (M = C.length) := hM
        rw [← hN] at d1 hs1 hSl
        rw [← hM] at d0 hCl
        clear hrow hoc hncs hns hos hC hS0 hN hM
        go_wp2_with fail
        refine (zzCompact_any w.heap.size g N sc S _ HN.out.symm (by omega) hs1 hs2 (by rw [HN.out]; exact HROW.out) HCR.out).mono ?_
        rw [HCC.out, ← HM.out]
        rintro e w4 ⟨rfl, ⟨ys, hyl, hyt, hrow4⟩, hgr⟩
        have hr4 : Rest (fun k => k = g) w3 w4 := rest_grown hgr (fun k hk => (Option.some.inj hk).symm)
        have d0' : w4.cell? ⟨w.heap.size, 0, none⟩ = some (.slice ca M cc) := (World.cell?_of_block (a := ⟨w.heap.size, 0, none⟩) (hr4.block _ (blklt' d0) (fun e => HNS.out e.symm))).trans d0
        have hr1 : Reads .u8 w4 (some ⟨g, 0, none⟩) g 0 C := by
          refine ⟨fun _ => rfl, fun j hj => ?_⟩
          have hle : C.length ≤ ys.length := by have := congrArg List.length hyt; simp [HM.out] at this; omega
          rw [Nat.zero_add, hrow4.cell (by omega)]
          have : C.getD j 0 = (ys.take M).getD j 0 := by rw [hyt]
          rw [this, HM.out]
          simp [List.getD, hj]
        obtain ⟨gc, hr2⟩ := (HOC.out.rest hr4 (fun k hk e => HCS.out k hk (by rw [e]; rfl))).reads
        have hbel4 : Below w.heap.size w w4 := hbel.trans (hr4.below hbel.size (fun k e => by have := HGB.out; omega))
        have HR1 : Hid (Reads .u8 w4 (some ⟨g, 0, none⟩) g 0 C) := hr1
        have HR2 : Hid (Reads .u8 w4 ca gc 0 C) := hr2
        clear hyl hyt hrow4 hgr hr4 hr1 hr2 d0 d1
        go_wp2_with fail
        refine (bytesEqual_any _ _ M sc M cc g 0 gc 0 C C _ HM.out.symm HM.out.symm (by omega) HR1.out HR2.out).mono ?_
        rw [decide_eq_true rfl]
        rintro e w5 ⟨rfl, hd⟩
        go_wp2
        go_ret
        exact ⟨rfl, hbel4.trans (hd.below _)⟩

end Go.Proofs.Qxb6000752a
