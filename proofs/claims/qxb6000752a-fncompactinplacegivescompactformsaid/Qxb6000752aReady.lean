/-
  The builder between two tokens: what each of its methods does to it.
-/
import Derived.Test.Qxb6000752aGap
namespace Go.Proofs.Qxb6000752a
open Go.RowKit

/-- The builder, at most n bytes written either way, and the spaced text compacts to the compact one. -/
def Ready (w0 : World) (wv : Value) (n : Nat) (w : World) : Prop :=
  ∃ C S k, JW w0.heap.size w0 w0.heap.size wv C S k w ∧ (comp 0 S = C ∧ crun 0 S = 0) ∧ C.length ≤ n ∧ S.length ≤ n

theorem Ready.more {w0 : World} {wv : Value} {n m : Nat} {w : World} (h : Ready w0 wv n w) (hm : n ≤ m) : Ready w0 wv m w := by
  obtain ⟨C, S, k, h1, h2, h3, h4⟩ := h
  exact ⟨C, S, k, h1, h2, by omega, by omega⟩
theorem Ready.below {w0 : World} {wv : Value} {n : Nat} {w : World} (h : Ready w0 wv n w) : Below w0.heap.size w0 w := by
  obtain ⟨C, S, k, h1, _⟩ := h
  exact h1.2

theorem both_r {w0 w : World} {wv : Value} {n : Nat} (c : Int) (hc : Tok [c]) (h : Ready w0 wv n w) (hn : n ≤ 1099511500000) :
    Calls Try.prog 20 #[.pointer (some ⟨w0.heap.size, 0, none⟩), .int .u8 c] w fun e w' => e = .returned (.tuple #[]) ∧ Ready w0 wv (n + 1) w' := by
  obtain ⟨C, S, k, h1, h2, h3, h4⟩ := h
  refine (both_w w0.heap.size w0.heap.size wv C S k c w0 w h1 (by omega) (by omega) (Nat.le_refl _)).mono ?_
  rintro e w' ⟨rfl, hj⟩
  exact ⟨rfl, _, _, k, hj, tok_app h2 hc, by simp; omega, by simp; omega⟩
theorem word_r {w0 w : World} {wv : Value} {n : Nat} (s : ByteArray) (hs : s.size ≤ 8) (ht : Tok (bts s)) (h : Ready w0 wv n w) (hn : n ≤ 1099511500000) :
    Calls Try.prog 21 #[.pointer (some ⟨w0.heap.size, 0, none⟩), .string s] w fun e w' => e = .returned (.tuple #[]) ∧ Ready w0 wv (n + 8) w' := by
  obtain ⟨C, S, k, h1, h2, h3, h4⟩ := h
  refine (word_j w0.heap.size w0.heap.size wv C S k s w h1.1 (by omega) (by omega) (Nat.le_refl _) (by omega)).mono ?_
  rintro e w' ⟨rfl, hj, hb⟩
  exact ⟨rfl, _, _, k, ⟨hj, h1.2.trans hb⟩, tok_app h2 ht, by simp [bts_len]; omega, by simp [bts_len]; omega⟩
theorem gap_r {w0 w : World} {wa : Option Addr} {wl wc wb wo n : Nat} {W : List Int} (hW : W.length = wl) (hwl : wl ≤ 1048576) (hrd : Reads .u8 w0 wa wb wo W) (hbd : ∀ j, 0 ≤ W.getD j 0 ∧ W.getD j 0 ≤ 255)
    (h : Ready w0 (.slice wa wl wc) n w) (hn : n ≤ 1099511500000) :
    Calls Try.prog 19 #[.pointer (some ⟨w0.heap.size, 0, none⟩)] w fun e w' => e = .returned (.tuple #[]) ∧ Ready w0 (.slice wa wl wc) (n + 15) w' := by
  obtain ⟨C, S, k, h1, h2, h3, h4⟩ := h
  have key : Calls Try.prog 19 #[.pointer (some ⟨w0.heap.size, 0, none⟩)] w fun e w' => e = .returned (.tuple #[]) ∧ Gapped w0.heap.size w0 w0.heap.size (.slice wa wl wc) C S w' := by
    by_cases hk : wl ≤ k
    · exact gap_none w0.heap.size w0.heap.size C S k wa wl wc w0 w h1 hk
    · exact gap_some w0.heap.size w0.heap.size C S k wa wl wc wb wo W w0 w h1 (by omega) hwl hW hrd (fun h0 => hrd.lt (by omega)) hbd (by omega) (Nat.le_refl _)
  refine key.mono ?_
  rintro e w' ⟨rfl, j, c, n', hj, hc, hJ⟩
  exact ⟨rfl, _, _, n', hJ, blank_app h2 hc j, by omega, by simp; omega⟩
theorem str_r {w0 w : World} {wv : Value} {n : Nat} (a : Option Addr) (len cap b off : Nat) (xs : List Int) (hx : xs.length = len) (hlen : len ≤ 31) (hrd : Reads .u8 w0 a b off xs) (hbd : ∀ j, 0 ≤ xs.getD j 0 ∧ xs.getD j 0 ≤ 255)
    (h : Ready w0 wv n w) (hn : n ≤ 1099511500000) :
    Calls Try.prog 22 #[.pointer (some ⟨w0.heap.size, 0, none⟩), .slice a len cap] w fun e w' => e = .returned (.tuple #[]) ∧ Ready w0 wv (n + 188) w' := by
  obtain ⟨C, S, k, h1, h2, h3, h4⟩ := h
  refine (str_j w0.heap.size w0.heap.size wv C S k a len cap b off xs w0 w h1 (by omega) (by omega) (Nat.le_refl _) hx (by omega) hrd (fun h0 => hrd.lt (by omega)) hbd).mono ?_
  rintro e w' ⟨rfl, hj⟩
  have hq := qs_length xs
  refine ⟨rfl, _, _, k, hj, tok_app h2 (tok_qs xs ?_), by simp; omega, by simp; omega⟩
  intro x hxm
  obtain ⟨i, hi, rfl⟩ := List.getElem_of_mem hxm
  have := hbd i
  simpa [List.getElem?_eq_getElem hi] using this

theorem tok_one {c : Int} (h1 : c ≠ 34) (h2 : sp c = false) : Tok [c] := by
  have hk : kept 0 c = true := by simp [kept, h2]
  exact ⟨by simp [comp, hk], by simp [crun, nxt, h1]⟩

end Go.Proofs.Qxb6000752a
