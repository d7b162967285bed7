/-
  The walk of gap (19).
-/
import Derived.Test.Qxb6000752aStr
import Derived.Deep.QuietTactic
import Derived.BigQuiet
namespace Go.Proofs.Qxb6000752a
open Go.RowKit

/-- What a gap leaves: some blanks of one kind behind the spaced text. -/
def Gapped (base : Nat) (w0 : World) (jb : Nat) (wv : Value) (C S : List Int) (w' : World) : Prop :=
  ∃ (k : Nat) (c : Int) (n' : Nat), k ≤ 15 ∧ sp c = true ∧ JW base w0 jb wv C (S ++ List.replicate k c) n' w'

theorem JB.drewN {base : Nat} {w : World} {jb : Nat} {wv : Value} {C S : List Int} {n : Nat} (h : JB base w jb wv C S n) (m : Nat) : JB base (w.drewN m) jb wv C S n := by
  obtain ⟨ca, cc, sa, sc, h⟩ := h
  exact ⟨ca, cc, sa, sc, h.blk, h.oc, h.os, h.nc, h.ns, h.ncs⟩

theorem gap_none (base jb : Nat) (C S : List Int) (n : Nat) (wa : Option Addr) (wl wc : Nat) (w0 w : World) (hj : JW base w0 jb (.slice wa wl wc) C S n w) (hn : wl ≤ n) :
    Calls Try.prog 19 #[.pointer (some ⟨jb, 0, none⟩)] w fun e w' => e = .returned (.tuple #[]) ∧ Gapped base w0 jb (.slice wa wl wc) C S w' := by
  have HJ : Hid (JW base w0 jb (.slice wa wl wc) C S n w) := hj
  obtain ⟨⟨ca, cc, sa, sc, h⟩, hbel⟩ := hj
  have d2 : w.cell? ⟨jb, 2, none⟩ = some (.slice wa wl wc) := blkcell h.blk 2
  have d3 : w.cell? ⟨jb, 3, none⟩ = some (.int .i64 n) := blkcell h.blk 3
  have hle : (wl : Int) ≤ (n : Int) := by omega
  clear h hbel
  go_enter Try.func19, Try.ntmps19
  go_wp2
  go_quiet (fail)
  go_wp2
  refine bodyPost_ret (results_none rfl _ _ _) rfl ?_
  refine ⟨rfl, 0, 32, n, by omega, rfl, ?_, ?_⟩
  · rw [List.replicate_zero, List.append_nil]; exact HJ.out.1.drewN _
  · exact HJ.out.2.trans ⟨rfl, rfl, rfl, Nat.le_refl _, fun _ _ => rfl⟩

/-- The blank that a byte draws. -/
def spc (g : Int) : Int := if g % 4 = 1 then 9 else if g % 4 = 2 then 13 else if g % 4 = 3 then 10 else 32
theorem spc_sp (g : Int) : sp (spc g) = true := by unfold spc; split <;> (try split) <;> (try split) <;> rfl
theorem u8_and3 (x : Int) (h0 : 0 ≤ x) (h1 : x < 256) : bits .and .u8 x 3 = x % 4 := bits_mask .u8 8 (by decide) wraps_u8 2 (by decide) x h0 h1

/-- One blank more in the spaced text. -/
theorem jb_app {base jb : Nat} {w w1 : World} {wv : Value} {C S : List Int} {n : Nat} {ca : Option Addr} {cc : Nat} {sa : Option Addr} {sc : Nat} {o : Obj} {g cap : Nat} {c : Int} (h : Jb base w jb wv C S n ca cc sa sc) (hb : base ≤ jb)
    (hown : w1.ownsRow base 5 1 (.slice (some ⟨g, 0, none⟩) (S.length + 1) cap) (S.length + 1) (S.map (Value.int .u8) ++ [.int .u8 c])) (hgrow : (w.alloc o).grownBy w1 (Value.slice sa S.length sc).ownBlock) (hat : (Value.slice sa S.length sc).ownBlock = some g ∨ g = w.heap.size + 1) :
    w1.heap[jb]? = some (.cells #[.slice ca C.length cc, .slice sa S.length sc, wv, .int .i64 n] 33 (0, 0)) ∧ JB base (w1.setCell ⟨jb, 1, none⟩ (.slice (some ⟨g, 0, none⟩) (S.length + 1) cap)) jb wv C (S ++ [c]) n ∧ Below base w (w1.setCell ⟨jb, 1, none⟩ (.slice (some ⟨g, 0, none⟩) (S.length + 1) cap)) := by
  have hlt := blklt h.blk
  obtain ⟨b3, o3, u3, n3, n4, bel3, _⟩ := app_step h.blk h.os h.oc (by omega) h.ns (fun k hk e => h.ncs k e hk) rfl hown hgrow hat
  have hr4 := rest_set1 w1 jb 1 (.slice (some ⟨g, 0, none⟩) (S.length + 1) cap)
  have lS : (S ++ [c]).length = S.length + 1 := by simp
  refine ⟨b3, ⟨ca, cc, some ⟨g, 0, none⟩, cap, ?_, ?_, ?_, h.nc, ?_, ?_⟩, bel3.setCell hb _⟩
  · rw [lS]; exact blkset b3
  · exact u3.rest hr4 (fun k hk e => h.nc (by rw [hk, e]))
  · exact o3.rest hr4 (fun k hk e => n3 ((Option.some.inj hk).trans e))
  · exact fun e => n3 (Option.some.inj e)
  · intro k hk e
    exact n4 (by rw [hk]; exact e.symm)

set_option maxHeartbeats 1600000 in
theorem gap_some (base jb : Nat) (C S : List Int) (n : Nat) (wa : Option Addr) (wl wc wb wo : Nat) (W : List Int) (w0 w : World) (hj : JW base w0 jb (.slice wa wl wc) C S n w) (hn : n < wl) (hwl : wl ≤ 1048576) (hW : W.length = wl) (hrd : Reads .u8 w0 wa wb wo W)
    (hold : 0 < wl → wb < base) (hbd : ∀ j, 0 ≤ W.getD j 0 ∧ W.getD j 0 ≤ 255) (hS : S.length ≤ 1099511600000) (hb : base ≤ jb) :
    Calls Try.prog 19 #[.pointer (some ⟨jb, 0, none⟩)] w fun e w' => e = .returned (.tuple #[]) ∧ Gapped base w0 jb (.slice wa wl wc) C S w' := by
  obtain ⟨i0, hi, hz0, hz1, hz2⟩ := info_parts Try.info5b
  obtain rfl := hrd.pos (by omega)
  have HJ : Hid (JW base w0 jb (.slice (some ⟨wb, wo, none⟩) wl wc) C S n w) := hj
  have hcw : w.cell? ⟨wb, wo + n, none⟩ = some (.int .u8 (W.getD n 0)) := (hj.2.cell (by exact hold (by omega))).trans (hrd.cell n (by omega))
  obtain ⟨⟨ca, cc, sa, sc, h⟩, hbel⟩ := hj
  have d2 : w.cell? ⟨jb, 2, none⟩ = some (.slice (some ⟨wb, wo, none⟩) wl wc) := blkcell h.blk 2
  have d3 : w.cell? ⟨jb, 3, none⟩ = some (.int .i64 n) := blkcell h.blk 3
  have f3 : w.frozen? ⟨jb, 3, none⟩ = false := blkfree h.blk 3
  have hgb := hbd n
  obtain ⟨g, hg⟩ : ∃ g, g = W.getD n 0 := ⟨_, rfl⟩
  rw [← hg] at hcw hgb
  obtain ⟨hg0, hg1⟩ := hgb
  have hdl : decide (wl ≤ n) = false := decide_eq_false (by omega)
  have hnw : (n : Int) < (wl : Int) := by omega
  have hn0 : (0 : Int) ≤ (n : Int) := by omega
  have h3 : bits .and .u8 g 3 = g % 4 := u8_and3 g hg0 (by omega)
  -- the world behind the store of wsAt
  have hJ1 : ∀ m, JW base w0 jb (.slice (some ⟨wb, wo, none⟩) wl wc) C S (n + 1) ((w.drewN m).setCell ⟨jb, 3, none⟩ (.int .i64 ((n : Int) + 1))) := by
    intro m
    have hr := rest_set1 (w.drewN m) jb 3 (.int .i64 ((n : Int) + 1))
    have h' : Jb base (w.drewN m) jb (.slice (some ⟨wb, wo, none⟩) wl wc) C S n ca cc sa sc := ⟨h.blk, h.oc, h.os, h.nc, h.ns, h.ncs⟩
    refine ⟨⟨ca, cc, sa, sc, ?_, ?_, ?_, h.nc, h.ns, h.ncs⟩, ?_⟩
    · have := blkset (j := 3) (v := .int .i64 ((n : Int) + 1)) h'.blk
      simpa using this
    · exact h'.oc.rest hr (fun k hk e => h.nc (by rw [hk, e]))
    · exact h'.os.rest hr (fun k hk e => h.ns (by rw [hk, e]))
    · have hd : Below base w0 (w.drewN m) := hbel.trans ⟨rfl, rfl, rfl, Nat.le_refl _, fun _ _ => rfl⟩
      exact hd.setCell hb _
  have HJ1 : Hid (∀ m, JW base w0 jb (.slice (some ⟨wb, wo, none⟩) wl wc) C S (n + 1) ((w.drewN m).setCell ⟨jb, 3, none⟩ (.int .i64 ((n : Int) + 1)))) := hJ1
  have HS3 : Hid (bits .and .u8 g 3 = g % 4) := h3
  have hcl : ∃ c : Int, ((c = 9 ∧ (bits .and .u8 g 3 == 1) = true) ∨ (c = 13 ∧ (bits .and .u8 g 3 == 1) = false ∧ (bits .and .u8 g 3 == 2) = true) ∨ (c = 10 ∧ (bits .and .u8 g 3 == 1) = false ∧ (bits .and .u8 g 3 == 2) = false ∧ (bits .and .u8 g 3 == 3) = true) ∨
      (c = 32 ∧ (bits .and .u8 g 3 == 1) = false ∧ (bits .and .u8 g 3 == 2) = false ∧ (bits .and .u8 g 3 == 3) = false)) ∧ sp c = true := by
    rw [h3]
    rcases (show g % 4 = 1 ∨ g % 4 = 2 ∨ g % 4 = 3 ∨ g % 4 = 0 from by omega) with e | e | e | e
    · exact ⟨9, .inl ⟨rfl, by simp [e]⟩, rfl⟩
    · exact ⟨13, .inr (.inl ⟨rfl, by simp [e], by simp [e]⟩), rfl⟩
    · exact ⟨10, .inr (.inr (.inl ⟨rfl, by simp [e], by simp [e], by simp [e]⟩)), rfl⟩
    · exact ⟨32, .inr (.inr (.inr ⟨rfl, by simp [e], by simp [e], by simp [e]⟩)), rfl⟩
  obtain ⟨N, hN⟩ : ∃ N : Nat, g / 16 = (N : Int) := ⟨(g / 16).toNat, by omega⟩
  have hN15 : N ≤ 15 := by omega
  clear h hbel hJ1 hg hrd hold hbd h3
  obtain ⟨c, hcc, hsp⟩ := hcl
  have HSP : Hid (sp c = true) := hsp
  clear hsp
  rcases hcc with ⟨rfl, g1⟩ | ⟨rfl, g1, g2⟩ | ⟨rfl, g1, g2, g3⟩ | ⟨rfl, g1, g2, g3⟩
  · go_enter Try.func19, Try.ntmps19
    go_wp2
    go_quiet (fail)
    go_wp2
    go_quiet (fail)
    go_wp2
    clear d2 d3 f3 hcw
    go_loopw [5] (fun i wr => ∃ (j : Nat), j ≤ N ∧ i = .int .i64 j ∧ JW base w0 jb (.slice (some ⟨wb, wo, none⟩) wl wc) C (S ++ List.replicate j 9) (n + 1) wr) (fun i _ => N - (intOf i).toNat)
    case atStart => exact ⟨0, Nat.zero_le _, rfl, by rw [List.replicate_zero, List.append_nil]; exact HJ1.out _⟩
    case round =>
      obtain ⟨j, hj, rfl, hJ⟩ := hrel
      by_cases hjN : j < N
      · have hSl : (S ++ List.replicate j 9).length ≤ 1099511610000 := by simp; omega
        obtain ⟨SS, hSS⟩ : ∃ SS, SS = S ++ List.replicate j 9 := ⟨_, rfl⟩
        have hSn : S ++ List.replicate (j + 1) 9 = SS ++ [9] := by rw [hSS, List.replicate_succ', List.append_assoc]
        rw [← hSS] at hSl hJ
        have HSN : Hid (S ++ List.replicate (j + 1) 9 = SS ++ [9]) := hSn
        clear hSn hSS
        obtain ⟨⟨ca, cc, sa, sc, h⟩, hbel⟩ := hJ
        have d1 : wr.cell? ⟨jb, 1, none⟩ = some (.slice sa SS.length sc) := blkcell h.blk 1
        have hlt' := blklt h.blk
        have H : Hid (Jb base wr jb (.slice (some ⟨wb, wo, none⟩) wl wc) C SS (n + 1) ca cc sa sc) := h
        clear h
        go_wp2_with (at_builtin; refine wpList_append_lies _ rfl (.tmp 53) (.tmp 55) 23 rfl base 5 i0 (.int .u8 0) 1 1 Try.underlying23 hi hz0 hz1 hz2 rfl (by decide) _ SS.length (SS.map (Value.int .u8)) rfl (World.ownsRow.alloc H.out.os _) ⟨wr.heap.size, 0, none⟩ 1 1 [.int .u8 9] rfl rfl (one_cell8 _ _ _) (by intro u hu; simp at hu; subst hu; rfl) (by omega) (by unfold maxLen; omega) (by omega) (by simp; omega) (wr.heap.size + 1) (by simp) ?_)
        intro g' cap' w1 hown hgrow hat _
        obtain ⟨b1, j1, bel1⟩ := jb_app H.out hb hown hgrow hat
        have e1 : w1.cell? ⟨jb, 1, none⟩ = some (.slice sa SS.length sc) := blkcell b1 1
        have f1 : w1.frozen? ⟨jb, 1, none⟩ = false := blkfree b1 1
        rw [← HSN.out] at j1
        have HJ2 : Hid (JW base w0 jb (.slice (some ⟨wb, wo, none⟩) wl wc) C (S ++ List.replicate (j + 1) 9) (n + 1) (w1.setCell ⟨jb, 1, none⟩ (.slice (some ⟨g', 0, none⟩) (SS.length + 1) cap'))) := ⟨j1, hbel.trans bel1⟩
        clear hown hgrow hat b1 j1 bel1 HSN H hbel d1
        go_wp2
        go_roundw
        case rel => first | exact ⟨j + 1, by omega, by go_num, HJ2.out⟩ | ((repeat apply Exists.intro); exact ⟨⟨j + 1, by omega, by go_num, HJ2.out⟩, rfl⟩)
        case measure => simp [intOf]; omega
      · obtain rfl : j = N := by omega
        go_wp2
        go_end0
        exact ⟨rfl, j, 9, n + 1, hN15, HSP.out, hJ⟩
  · go_enter Try.func19, Try.ntmps19
    go_wp2
    go_quiet (fail)
    go_wp2
    go_quiet (fail)
    go_wp2
    clear d2 d3 f3 hcw
    go_loopw [5] (fun i wr => ∃ (j : Nat), j ≤ N ∧ i = .int .i64 j ∧ JW base w0 jb (.slice (some ⟨wb, wo, none⟩) wl wc) C (S ++ List.replicate j 13) (n + 1) wr) (fun i _ => N - (intOf i).toNat)
    case atStart => exact ⟨0, Nat.zero_le _, rfl, by rw [List.replicate_zero, List.append_nil]; exact HJ1.out _⟩
    case round =>
      obtain ⟨j, hj, rfl, hJ⟩ := hrel
      by_cases hjN : j < N
      · have hSl : (S ++ List.replicate j 13).length ≤ 1099511610000 := by simp; omega
        obtain ⟨SS, hSS⟩ : ∃ SS, SS = S ++ List.replicate j 13 := ⟨_, rfl⟩
        have hSn : S ++ List.replicate (j + 1) 13 = SS ++ [13] := by rw [hSS, List.replicate_succ', List.append_assoc]
        rw [← hSS] at hSl hJ
        have HSN : Hid (S ++ List.replicate (j + 1) 13 = SS ++ [13]) := hSn
        clear hSn hSS
        obtain ⟨⟨ca, cc, sa, sc, h⟩, hbel⟩ := hJ
        have d1 : wr.cell? ⟨jb, 1, none⟩ = some (.slice sa SS.length sc) := blkcell h.blk 1
        have hlt' := blklt h.blk
        have H : Hid (Jb base wr jb (.slice (some ⟨wb, wo, none⟩) wl wc) C SS (n + 1) ca cc sa sc) := h
        clear h
        go_wp2_with (at_builtin; refine wpList_append_lies _ rfl (.tmp 53) (.tmp 55) 23 rfl base 5 i0 (.int .u8 0) 1 1 Try.underlying23 hi hz0 hz1 hz2 rfl (by decide) _ SS.length (SS.map (Value.int .u8)) rfl (World.ownsRow.alloc H.out.os _) ⟨wr.heap.size, 0, none⟩ 1 1 [.int .u8 13] rfl rfl (one_cell8 _ _ _) (by intro u hu; simp at hu; subst hu; rfl) (by omega) (by unfold maxLen; omega) (by omega) (by simp; omega) (wr.heap.size + 1) (by simp) ?_)
        intro g' cap' w1 hown hgrow hat _
        obtain ⟨b1, j1, bel1⟩ := jb_app H.out hb hown hgrow hat
        have e1 : w1.cell? ⟨jb, 1, none⟩ = some (.slice sa SS.length sc) := blkcell b1 1
        have f1 : w1.frozen? ⟨jb, 1, none⟩ = false := blkfree b1 1
        rw [← HSN.out] at j1
        have HJ2 : Hid (JW base w0 jb (.slice (some ⟨wb, wo, none⟩) wl wc) C (S ++ List.replicate (j + 1) 13) (n + 1) (w1.setCell ⟨jb, 1, none⟩ (.slice (some ⟨g', 0, none⟩) (SS.length + 1) cap'))) := ⟨j1, hbel.trans bel1⟩
        clear hown hgrow hat b1 j1 bel1 HSN H hbel d1
        go_wp2
        go_roundw
        case rel => first | exact ⟨j + 1, by omega, by go_num, HJ2.out⟩ | ((repeat apply Exists.intro); exact ⟨⟨j + 1, by omega, by go_num, HJ2.out⟩, rfl⟩)
        case measure => simp [intOf]; omega
      · obtain rfl : j = N := by omega
        go_wp2
        go_end0
        exact ⟨rfl, j, 13, n + 1, hN15, HSP.out, hJ⟩
  · go_enter Try.func19, Try.ntmps19
    go_wp2
    go_quiet (fail)
    go_wp2
    go_quiet (fail)
    go_wp2
    clear d2 d3 f3 hcw
    go_loopw [5] (fun i wr => ∃ (j : Nat), j ≤ N ∧ i = .int .i64 j ∧ JW base w0 jb (.slice (some ⟨wb, wo, none⟩) wl wc) C (S ++ List.replicate j 10) (n + 1) wr) (fun i _ => N - (intOf i).toNat)
    case atStart => exact ⟨0, Nat.zero_le _, rfl, by rw [List.replicate_zero, List.append_nil]; exact HJ1.out _⟩
    case round =>
      obtain ⟨j, hj, rfl, hJ⟩ := hrel
      by_cases hjN : j < N
      · have hSl : (S ++ List.replicate j 10).length ≤ 1099511610000 := by simp; omega
        obtain ⟨SS, hSS⟩ : ∃ SS, SS = S ++ List.replicate j 10 := ⟨_, rfl⟩
        have hSn : S ++ List.replicate (j + 1) 10 = SS ++ [10] := by rw [hSS, List.replicate_succ', List.append_assoc]
        rw [← hSS] at hSl hJ
        have HSN : Hid (S ++ List.replicate (j + 1) 10 = SS ++ [10]) := hSn
        clear hSn hSS
        obtain ⟨⟨ca, cc, sa, sc, h⟩, hbel⟩ := hJ
        have d1 : wr.cell? ⟨jb, 1, none⟩ = some (.slice sa SS.length sc) := blkcell h.blk 1
        have hlt' := blklt h.blk
        have H : Hid (Jb base wr jb (.slice (some ⟨wb, wo, none⟩) wl wc) C SS (n + 1) ca cc sa sc) := h
        clear h
        go_wp2_with (at_builtin; refine wpList_append_lies _ rfl (.tmp 53) (.tmp 55) 23 rfl base 5 i0 (.int .u8 0) 1 1 Try.underlying23 hi hz0 hz1 hz2 rfl (by decide) _ SS.length (SS.map (Value.int .u8)) rfl (World.ownsRow.alloc H.out.os _) ⟨wr.heap.size, 0, none⟩ 1 1 [.int .u8 10] rfl rfl (one_cell8 _ _ _) (by intro u hu; simp at hu; subst hu; rfl) (by omega) (by unfold maxLen; omega) (by omega) (by simp; omega) (wr.heap.size + 1) (by simp) ?_)
        intro g' cap' w1 hown hgrow hat _
        obtain ⟨b1, j1, bel1⟩ := jb_app H.out hb hown hgrow hat
        have e1 : w1.cell? ⟨jb, 1, none⟩ = some (.slice sa SS.length sc) := blkcell b1 1
        have f1 : w1.frozen? ⟨jb, 1, none⟩ = false := blkfree b1 1
        rw [← HSN.out] at j1
        have HJ2 : Hid (JW base w0 jb (.slice (some ⟨wb, wo, none⟩) wl wc) C (S ++ List.replicate (j + 1) 10) (n + 1) (w1.setCell ⟨jb, 1, none⟩ (.slice (some ⟨g', 0, none⟩) (SS.length + 1) cap'))) := ⟨j1, hbel.trans bel1⟩
        clear hown hgrow hat b1 j1 bel1 HSN H hbel d1
        go_wp2
        go_roundw
        case rel => first | exact ⟨j + 1, by omega, by go_num, HJ2.out⟩ | ((repeat apply Exists.intro); exact ⟨⟨j + 1, by omega, by go_num, HJ2.out⟩, rfl⟩)
        case measure => simp [intOf]; omega
      · obtain rfl : j = N := by omega
        go_wp2
        go_end0
        exact ⟨rfl, j, 10, n + 1, hN15, HSP.out, hJ⟩
  · go_enter Try.func19, Try.ntmps19
    go_wp2
    go_quiet (fail)
    go_wp2
    go_quiet (fail)
    go_wp2
    clear d2 d3 f3 hcw
    go_loopw [5] (fun i wr => ∃ (j : Nat), j ≤ N ∧ i = .int .i64 j ∧ JW base w0 jb (.slice (some ⟨wb, wo, none⟩) wl wc) C (S ++ List.replicate j 32) (n + 1) wr) (fun i _ => N - (intOf i).toNat)
    case atStart => exact ⟨0, Nat.zero_le _, rfl, by rw [List.replicate_zero, List.append_nil]; exact HJ1.out _⟩
    case round =>
      obtain ⟨j, hj, rfl, hJ⟩ := hrel
      by_cases hjN : j < N
      · have hSl : (S ++ List.replicate j 32).length ≤ 1099511610000 := by simp; omega
        obtain ⟨SS, hSS⟩ : ∃ SS, SS = S ++ List.replicate j 32 := ⟨_, rfl⟩
        have hSn : S ++ List.replicate (j + 1) 32 = SS ++ [32] := by rw [hSS, List.replicate_succ', List.append_assoc]
        rw [← hSS] at hSl hJ
        have HSN : Hid (S ++ List.replicate (j + 1) 32 = SS ++ [32]) := hSn
        clear hSn hSS
        obtain ⟨⟨ca, cc, sa, sc, h⟩, hbel⟩ := hJ
        have d1 : wr.cell? ⟨jb, 1, none⟩ = some (.slice sa SS.length sc) := blkcell h.blk 1
        have hlt' := blklt h.blk
        have H : Hid (Jb base wr jb (.slice (some ⟨wb, wo, none⟩) wl wc) C SS (n + 1) ca cc sa sc) := h
        clear h
        go_wp2_with (at_builtin; refine wpList_append_lies _ rfl (.tmp 53) (.tmp 55) 23 rfl base 5 i0 (.int .u8 0) 1 1 Try.underlying23 hi hz0 hz1 hz2 rfl (by decide) _ SS.length (SS.map (Value.int .u8)) rfl (World.ownsRow.alloc H.out.os _) ⟨wr.heap.size, 0, none⟩ 1 1 [.int .u8 32] rfl rfl (one_cell8 _ _ _) (by intro u hu; simp at hu; subst hu; rfl) (by omega) (by unfold maxLen; omega) (by omega) (by simp; omega) (wr.heap.size + 1) (by simp) ?_)
        intro g' cap' w1 hown hgrow hat _
        obtain ⟨b1, j1, bel1⟩ := jb_app H.out hb hown hgrow hat
        have e1 : w1.cell? ⟨jb, 1, none⟩ = some (.slice sa SS.length sc) := blkcell b1 1
        have f1 : w1.frozen? ⟨jb, 1, none⟩ = false := blkfree b1 1
        rw [← HSN.out] at j1
        have HJ2 : Hid (JW base w0 jb (.slice (some ⟨wb, wo, none⟩) wl wc) C (S ++ List.replicate (j + 1) 32) (n + 1) (w1.setCell ⟨jb, 1, none⟩ (.slice (some ⟨g', 0, none⟩) (SS.length + 1) cap'))) := ⟨j1, hbel.trans bel1⟩
        clear hown hgrow hat b1 j1 bel1 HSN H hbel d1
        go_wp2
        go_roundw
        case rel => first | exact ⟨j + 1, by omega, by go_num, HJ2.out⟩ | ((repeat apply Exists.intro); exact ⟨⟨j + 1, by omega, by go_num, HJ2.out⟩, rfl⟩)
        case measure => simp [intOf]; omega
      · obtain rfl : j = N := by omega
        go_wp2
        go_end0
        exact ⟨rfl, j, 32, n + 1, hN15, HSP.out, hJ⟩

end Go.Proofs.Qxb6000752a
