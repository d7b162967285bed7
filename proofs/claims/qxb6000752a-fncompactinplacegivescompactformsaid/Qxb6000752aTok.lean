/-
  Tokens and blanks, plain: what compactInPlace makes of them.
-/
import Derived.Test.Qxb6000752aComp
import Derived.Test.Qxb6000752aPlain
namespace Go.Proofs.Qxb6000752a

/-- A token: kept whole, and outside a string behind it. -/
def Tok (t : List Int) : Prop := comp 0 t = t ∧ crun 0 t = 0
theorem tok_app {C S t : List Int} (h : comp 0 S = C ∧ crun 0 S = 0) (ht : Tok t) : comp 0 (S ++ t) = C ++ t ∧ crun 0 (S ++ t) = 0 := by
  rw [comp_append, crun_append, h.1, h.2, ht.1, ht.2]; exact ⟨rfl, rfl⟩
theorem sp_run {c : Int} (h : sp c = true) (k : Nat) : comp 0 (List.replicate k c) = [] ∧ crun 0 (List.replicate k c) = 0 := by
  induction k with
  | zero => exact ⟨rfl, rfl⟩
  | succ k ih =>
    rw [List.replicate_succ]
    have hk : kept 0 c = false := by simp [kept, h]
    refine ⟨?_, ?_⟩
    · rw [comp, hk, nxt_sp h]; simpa using ih.1
    · rw [crun, nxt_sp h]; exact ih.2
theorem blank_app {C S : List Int} (h : comp 0 S = C ∧ crun 0 S = 0) {c : Int} (hc : sp c = true) (k : Nat) : comp 0 (S ++ List.replicate k c) = C ∧ crun 0 (S ++ List.replicate k c) = 0 := by
  rw [comp_append, crun_append, h.1, h.2, (sp_run hc k).1, (sp_run hc k).2]; exact ⟨by simp, rfl⟩

/-- A byte inside a string, escaped where it must be. -/
def esc (c : Int) : List Int := if c = 34 ∨ c = 92 then [92, c] else if c < 32 ∨ 127 ≤ c then [92, 117, 48, 48, (lowd (c / 16).toNat : Int), (lowd (c % 16).toNat : Int)] else [c]
def escs : List Int → List Int
  | [] => []
  | c :: cs => esc c ++ escs cs
/-- A string as it is written. -/
def qs (xs : List Int) : List Int := [34] ++ escs xs ++ [34]

theorem escs_append (xs ys : List Int) : escs (xs ++ ys) = escs xs ++ escs ys := by
  induction xs with
  | nil => rfl
  | cons c cs ih => simp [escs, ih]
theorem escs_snoc (xs : List Int) (c : Int) : escs (xs ++ [c]) = escs xs ++ esc c := by
  rw [escs_append]; simp [escs]
theorem esc_length (c : Int) : (esc c).length ≤ 6 := by
  unfold esc; split
  · simp
  · split <;> simp
theorem escs_length (xs : List Int) : (escs xs).length ≤ 6 * xs.length := by
  induction xs with
  | nil => simp [escs]
  | cons c cs ih =>
    have := esc_length c
    simp [escs]; omega
theorem qs_length (xs : List Int) : (qs xs).length ≤ 6 * xs.length + 2 := by
  have := escs_length xs
  simp [qs]; omega

theorem kept_one (c : Int) : kept 1 c = true := rfl
theorem kept_two (c : Int) : kept 2 c = true := rfl
theorem nxt_two' (c : Int) : nxt 2 c = 1 := rfl
theorem nxt_one_plain {c : Int} (h1 : c ≠ 92) (h2 : c ≠ 34) : nxt 1 c = 1 := by simp [nxt, h1, h2]
theorem lowd_not (n : Nat) (h : n < 16) : ((lowd n : Nat) : Int) ≠ 92 ∧ ((lowd n : Nat) : Int) ≠ 34 := by
  unfold lowd; split <;> omega
theorem esc_in {c : Int} (h0 : 0 ≤ c) (h1 : c ≤ 255) : comp 1 (esc c) = esc c ∧ crun 1 (esc c) = 1 := by
  unfold esc
  split
  · exact ⟨by simp [comp, kept, nxt], by simp [crun, nxt]⟩
  · split
    · have a := lowd_not (c / 16).toNat (by omega)
      have b := lowd_not (c % 16).toNat (by omega)
      refine ⟨?_, ?_⟩
      · simp [comp, kept, nxt, a.1, a.2]
      · simp [crun, nxt, a.1, a.2, b.1, b.2]
    · have e1 : c ≠ 92 := by omega
      have e2 : c ≠ 34 := by omega
      exact ⟨by simp [comp, kept], by simp [crun, nxt, e1, e2]⟩
theorem escs_in (xs : List Int) : (∀ x ∈ xs, 0 ≤ x ∧ x ≤ 255) → comp 1 (escs xs) = escs xs ∧ crun 1 (escs xs) = 1 := by
  induction xs with
  | nil => intro _; exact ⟨rfl, rfl⟩
  | cons c cs ih =>
    intro h
    have hc := h c (by simp)
    obtain ⟨i1, i2⟩ := ih (fun x hx => h x (by simp [hx]))
    obtain ⟨e1, e2⟩ := esc_in hc.1 hc.2
    simp only [escs]
    rw [comp_append, crun_append, e1, e2, i1, i2]; exact ⟨rfl, rfl⟩
theorem tok_qs (xs : List Int) (h : ∀ x ∈ xs, 0 ≤ x ∧ x ≤ 255) : Tok (qs xs) := by
  obtain ⟨i1, i2⟩ := escs_in xs h
  unfold qs Tok
  rw [comp_append, crun_append, comp_append, crun_append]
  have c34 : comp 0 [34] = [34] := rfl
  have r34 : crun 0 [34] = 1 := rfl
  rw [crun_append, c34, r34, i1, i2]
  exact ⟨rfl, rfl⟩

end Go.Proofs.Qxb6000752a
