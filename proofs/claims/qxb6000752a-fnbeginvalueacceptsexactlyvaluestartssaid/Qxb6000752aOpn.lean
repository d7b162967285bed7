/-
  What opening a container does to the kind bits: plain.
-/
import Derived.Test.Qxb6000752aKindBit
namespace Go.Proofs.Qxb6000752a

theorem opw_getD (K : List Int) (d i : Nat) : (opw K d).getD i 0 = K.getD i 0 := by
  unfold opw
  split
  · by_cases h : i < K.length
    · simp [List.getD, List.getElem?_append_left h]
    · simp only [List.getD]
      rw [List.getElem?_eq_none (l := K) (by omega)]
      by_cases e : i = K.length
      · subst e; simp
      · rw [List.getElem?_eq_none (by simp; omega)]
  · rfl
theorem opw_lt {K : List Int} {d : Nat} (hf : d / 64 - 1 ≤ K.length) : d / 64 - 1 < (opw K d).length := by
  rw [opw_length]; split <;> omega
theorem getD_set (L : List Int) (i j : Nat) (x : Int) (h : i < L.length) : (L.set i x).getD j 0 = if j = i then x else L.getD j 0 := by
  by_cases e : j = i
  · subst e; simp [List.getD, h]
  · rw [if_neg e]; simp [List.getD, Ne.symm e]

theorem opn_low {ok : Int} {K : List Int} {d : Nat} {o : Bool} (h : d < 64) : opn ok K d o = (setb ok (bitOf d) o, K) := by unfold opn; rw [if_pos h]
theorem opn_high {ok : Int} {K : List Int} {d : Nat} {o : Bool} (h : ¬ d < 64) : opn ok K d o = (ok, (opw K d).set (d / 64 - 1) (setb (K.getD (d / 64 - 1) 0) (bitOf d) o)) := by
  unfold opn; rw [if_neg h, opw_getD]

theorem opn_spec {ok : Int} {K : List Int} {d : Nat} {o : Bool} (hf : Fits d K.length) (hok : Word ok) (hK : ∀ j, Word (K.getD j 0)) :
    Word (opn ok K d o).1 ∧ (∀ j, Word ((opn ok K d o).2.getD j 0)) ∧ ∀ j, kbit (opn ok K d o).1 (opn ok K d o).2 j = if j = d then o else kbit ok K j := by
  by_cases h : d < 64
  · rw [opn_low h]
    obtain ⟨h1, h2⟩ := setb_spec ok d o hok
    refine ⟨h1, hK, fun j => ?_⟩
    unfold kbit
    by_cases hj : j < 64
    · simp only [if_pos hj]
      rw [h2 j, show d % 64 = d from Nat.mod_eq_of_lt h]
    · simp only [if_neg hj]
      rw [if_neg (by omega)]
  · have hf' : d / 64 - 1 ≤ K.length := by
      rcases hf with h' | h'
      · omega
      · exact h'
    rw [opn_high h]
    obtain ⟨h1, h2⟩ := setb_spec (K.getD (d / 64 - 1) 0) d o (hK _)
    refine ⟨hok, fun j => ?_, fun j => ?_⟩
    · rw [getD_set _ _ _ _ (opw_lt hf'), opw_getD]
      split
      · exact h1
      · exact hK j
    · unfold kbit
      by_cases hj : j < 64
      · simp only [if_pos hj]
        rw [if_neg (by omega)]
      · simp only [if_neg hj]
        rw [getD_set _ _ _ _ (opw_lt hf'), opw_getD]
        by_cases e : j / 64 - 1 = d / 64 - 1
        · rw [if_pos e, h2, e]
          by_cases e2 : j = d
          · rw [if_pos e2, if_pos (by rw [e2])]
          · rw [if_neg e2, if_neg (by omega)]
        · rw [if_neg e, if_neg (by intro e2; exact e (by rw [e2]))]
theorem opn_length {ok : Int} {K : List Int} {d : Nat} {o : Bool} : (opn ok K d o).2.length = if d < 64 then K.length else if d / 64 - 1 = K.length then K.length + 1 else K.length := by
  by_cases h : d < 64
  · rw [opn_low h, if_pos h]
  · rw [opn_high h, if_neg h, List.length_set, opw_length]

end Go.Proofs.Qxb6000752a
