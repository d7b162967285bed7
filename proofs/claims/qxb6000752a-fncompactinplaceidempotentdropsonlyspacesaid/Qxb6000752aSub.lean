/-
  What the law's last loop finds: what compactInPlace leaves is the input less some spaces. No walk.
-/
import Derived.Test.Qxb6000752aComp
namespace Go.Proofs.Qxb6000752a

/-- How many of the first i bytes are kept. -/
def cpos (xs : List Int) (i : Nat) : Nat := (comp 0 (xs.take i)).length
theorem cpos_zero (xs : List Int) : cpos xs 0 = 0 := by simp [cpos, comp]
theorem cpos_end (xs : List Int) : cpos xs xs.length = (comp 0 xs).length := by simp [cpos]
theorem comp_split (xs : List Int) (i : Nat) : comp 0 xs = comp 0 (xs.take i) ++ comp (crun 0 (xs.take i)) (xs.drop i) := by
  rw [← comp_append, List.take_append_drop]
theorem drop_cons' {xs : List Int} {i : Nat} (h : i < xs.length) : xs.drop i = xs.getD i 0 :: xs.drop (i + 1) := by
  rw [List.drop_eq_getElem_cons h]; simp [List.getElem?_eq_getElem h]
theorem cpos_le (xs : List Int) (i : Nat) : cpos xs i ≤ i := by
  have := comp_length_le (xs.take i) 0
  have h2 : (xs.take i).length ≤ i := List.length_take_le _ _
  unfold cpos; omega
theorem cpos_le_all (xs : List Int) (i : Nat) : cpos xs i ≤ (comp 0 xs).length := by
  rw [comp_split xs i]; simp [cpos]
theorem sub_keep {xs : List Int} {i : Nat} (h : i < xs.length) (hk : kept (crun 0 (xs.take i)) (xs.getD i 0) = true) :
    (comp 0 xs).getD (cpos xs i) 0 = xs.getD i 0 ∧ cpos xs i < (comp 0 xs).length ∧ cpos xs (i + 1) = cpos xs i + 1 := by
  have e := comp_split xs i
  rw [drop_cons' h, comp, if_pos hk] at e
  refine ⟨?_, ?_, ?_⟩
  · rw [e]; simp [cpos]
  · rw [e]; simp [cpos]
  · unfold cpos; rw [take_snoc' h, comp_append, comp, if_pos hk]; simp [comp]
theorem sub_drop {xs : List Int} {i : Nat} (h : i < xs.length) (hk : kept (crun 0 (xs.take i)) (xs.getD i 0) = false) :
    sp (xs.getD i 0) = true ∧ (cpos xs i < (comp 0 xs).length → (comp 0 xs).getD (cpos xs i) 0 ≠ xs.getD i 0) ∧ cpos xs (i + 1) = cpos xs i := by
  obtain ⟨hq, hs⟩ := kept_false hk
  have e := comp_split xs i
  rw [drop_cons' h, comp, hk, hq, nxt_sp hs] at e
  simp only [Bool.false_eq_true, if_false] at e
  refine ⟨hs, ?_, ?_⟩
  · intro hlt hc
    cases hh : comp 0 (xs.drop (i + 1)) with
    | nil => rw [e, hh] at hlt; simp [cpos] at hlt
    | cons d ds =>
      have hd := comp_head _ d ds hh
      rw [e, hh] at hc
      simp [cpos] at hc
      rw [hc] at hd
      simp at hs
      rw [hs] at hd
      cases hd
  · unfold cpos; rw [take_snoc' h, comp_append, comp, hk]; simp [comp]
theorem sp_cases {c : Int} (h : sp c = true) : c = 32 ∨ c = 9 ∨ c = 13 ∨ c = 10 := by simp [sp] at h; omega

end Go.Proofs.Qxb6000752a
