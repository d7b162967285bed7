/-
  compactInPlace as a plain function on lists: a machine of three states (0: outside a string, 1: in a string, 2: behind a backslash in a string). No walk.
-/
namespace Go.Proofs.Qxb6000752a

/-- One of the four whitespace bytes. -/
def sp (c : Int) : Bool := c == 32 || c == 9 || c == 13 || c == 10
def kept (q : Nat) (c : Int) : Bool := !(q == 0 && sp c)
def nxt (q : Nat) (c : Int) : Nat := if q = 2 then 1 else if q = 1 then (if c = 92 then 2 else if c = 34 then 0 else 1) else (if c = 34 then 1 else 0)
def crun : Nat → List Int → Nat
  | q, [] => q
  | q, c :: cs => crun (nxt q c) cs
def comp : Nat → List Int → List Int
  | _, [] => []
  | q, c :: cs => if kept q c then c :: comp (nxt q c) cs else comp (nxt q c) cs

theorem kept_false {q : Nat} {c : Int} (h : kept q c = false) : q = 0 ∧ sp c = true := by
  simp [kept] at h; exact h
theorem sp_not34 {c : Int} (h : sp c = true) : c ≠ 34 ∧ c ≠ 92 := by
  simp [sp] at h; omega
theorem nxt_sp {c : Int} (h : sp c = true) : nxt 0 c = 0 := by
  have := (sp_not34 h).1
  simp [nxt, this]
theorem crun_append (xs ys : List Int) : ∀ q, crun q (xs ++ ys) = crun (crun q xs) ys := by
  induction xs with
  | nil => intro q; rfl
  | cons c cs ih => intro q; exact ih (nxt q c)
theorem comp_append (xs ys : List Int) : ∀ q, comp q (xs ++ ys) = comp q xs ++ comp (crun q xs) ys := by
  induction xs with
  | nil => intro q; rfl
  | cons c cs ih =>
    intro q
    simp only [List.cons_append, comp, crun]
    split
    · rw [ih]; rfl
    · rw [ih]
theorem comp_length_le (xs : List Int) : ∀ q, (comp q xs).length ≤ xs.length := by
  induction xs with
  | nil => intro q; exact Nat.le_refl _
  | cons c cs ih =>
    intro q
    simp only [comp]
    have := ih (nxt q c)
    split <;> simp <;> omega
theorem comp_idem (xs : List Int) : ∀ q, comp q (comp q xs) = comp q xs := by
  induction xs with
  | nil => intro q; rfl
  | cons c cs ih =>
    intro q
    by_cases h : kept q c = true
    · simp only [comp, h, if_true, ih]
    · have h' : kept q c = false := by simpa using h
      obtain ⟨rfl, hs⟩ := kept_false h'
      simp only [comp, h', Bool.false_eq_true, if_false, nxt_sp hs, ih]
theorem crun_comp (xs : List Int) : ∀ q, crun q (comp q xs) = crun q xs := by
  induction xs with
  | nil => intro q; rfl
  | cons c cs ih =>
    intro q
    by_cases h : kept q c = true
    · simp only [comp, h, if_true, crun, ih]
    · have h' : kept q c = false := by simpa using h
      obtain ⟨rfl, hs⟩ := kept_false h'
      simp only [comp, h', Bool.false_eq_true, if_false, crun, nxt_sp hs, ih]
theorem nxt_two {q : Nat} {c : Int} (h : nxt q c = 2) : c = 92 := by
  unfold nxt at h
  split at h
  · omega
  · split at h
    · split at h
      · assumption
      · split at h <;> omega
    · split at h <;> omega
/-- Bytes that do not end in a backslash do not end behind one. -/
theorem crun_last (xs : List Int) (h : 0 < xs.length → xs.getD (xs.length - 1) 0 ≠ 92) : crun 0 xs ≠ 2 := by
  by_cases h0 : xs = []
  · subst h0; decide
  · have hl := h (List.length_pos_iff.2 h0)
    have e := List.dropLast_concat_getLast h0
    have e2 : xs.getD (xs.length - 1) 0 = xs.getLast h0 := by
      rw [List.getLast_eq_getElem]; simp [List.getElem?_eq_getElem (show xs.length - 1 < xs.length from Nat.sub_lt (List.length_pos_iff.2 h0) (by decide))]
    rw [e2] at hl
    intro hc
    rw [← e, crun_append] at hc
    exact hl (nxt_two hc)
/-- Outside a string the first byte that is left is no space. -/
theorem comp_head (xs : List Int) : ∀ (d : Int) (ds : List Int), comp 0 xs = d :: ds → sp d = false := by
  induction xs with
  | nil => intro d ds h; simp [comp] at h
  | cons c cs ih =>
    intro d ds h
    by_cases hk : kept 0 c = true
    · simp only [comp, hk, if_true] at h
      have : c = d := (List.cons.inj h).1
      subst this
      simpa [kept] using hk
    · have h' : kept 0 c = false := by simpa using hk
      simp only [comp, h', Bool.false_eq_true, if_false, nxt_sp (kept_false h').2] at h
      exact ih d ds h

theorem take_snoc' {xs : List Int} {i : Nat} (h : i < xs.length) : xs.take (i + 1) = xs.take i ++ [xs.getD i 0] := by
  rw [List.take_succ_eq_append_getElem h]
  simp [List.getElem?_eq_getElem h]

/-- The loop's relation: i bytes read, n written, in state q; ys: what the row holds now. -/
structure CInv (xs : List Int) (i n q : Nat) (ys : List Int) : Prop where
  len : ys.length = xs.length
  le : i ≤ xs.length
  st : crun 0 (xs.take i) = q
  out : ys.take n = comp 0 (xs.take i)
  cnt : (comp 0 (xs.take i)).length = n
  back : n ≤ i
  rest : ys.drop i = xs.drop i

theorem cinv_start (xs : List Int) : CInv xs 0 0 0 xs := ⟨rfl, Nat.zero_le _, by simp [crun], by simp [comp], by simp [comp], Nat.le_refl _, rfl⟩
theorem CInv.at_ {xs ys : List Int} {i n q : Nat} (h : CInv xs i n q ys) (j : Nat) (hj : i ≤ j) : ys.getD j 0 = xs.getD j 0 := by
  have e : ys.getD j 0 = (ys.drop i).getD (j - i) 0 := by
    simp [List.getElem?_drop, show i + (j - i) = j by omega]
  have e2 : xs.getD j 0 = (xs.drop i).getD (j - i) 0 := by
    simp [List.getElem?_drop, show i + (j - i) = j by omega]
  rw [e, e2, h.rest]
theorem drop_set_lt {ys : List Int} {n i : Nat} (h : n < i) (c : Int) : (ys.set n c).drop i = ys.drop i := by
  rw [List.drop_set_of_lt h]
theorem drop_of_drop {xs ys : List Int} {i : Nat} (h : ys.drop i = xs.drop i) : ys.drop (i + 1) = xs.drop (i + 1) := by
  have := congrArg (List.drop 1) h
  simpa [List.drop_drop] using this
theorem CInv.keep {xs ys : List Int} {i n q : Nat} (h : CInv xs i n q ys) (hi : i < xs.length) {c : Int} (hc : c = xs.getD i 0) (hk : kept q c = true) : CInv xs (i + 1) (n + 1) (nxt q c) (ys.set n c) := by
  have hl := h.len
  have hb := h.back
  have hcm : comp 0 (xs.take (i + 1)) = comp 0 (xs.take i) ++ [c] := by
    rw [take_snoc' hi, comp_append, h.st, ← hc]
    simp [comp, hk]
  refine ⟨by simpa using h.len, hi, ?_, ?_, ?_, by omega, ?_⟩
  · rw [take_snoc' hi, crun_append, h.st, ← hc]; rfl
  · rw [hcm, ← h.out, List.take_succ_eq_append_getElem (by simp; omega)]
    simp [List.take_set_of_le]
  · rw [hcm]; simp [h.cnt]
  · rw [drop_set_lt (by omega)]; exact drop_of_drop h.rest
theorem CInv.skip {xs ys : List Int} {i n : Nat} (h : CInv xs i n 0 ys) (hi : i < xs.length) {c : Int} (hc : c = xs.getD i 0) (hs : sp c = true) : CInv xs (i + 1) n 0 ys := by
  have hb := h.back
  have hcm : comp 0 (xs.take (i + 1)) = comp 0 (xs.take i) := by
    rw [take_snoc' hi, comp_append, h.st, ← hc]
    simp [comp, kept, hs]
  refine ⟨h.len, hi, ?_, by rw [hcm, h.out], by rw [hcm, h.cnt], by omega, drop_of_drop h.rest⟩
  rw [take_snoc' hi, crun_append, h.st, ← hc]; exact nxt_sp hs
theorem CInv.done {xs ys : List Int} {n q : Nat} (h : CInv xs xs.length n q ys) : ys.take (comp 0 xs).length = comp 0 xs ∧ n = (comp 0 xs).length := by
  have h1 := h.out
  have h2 := h.cnt
  rw [List.take_length] at h1 h2
  exact ⟨by rw [h2, h1], h2.symm⟩
/-- In the middle of an escape there is one byte more. -/
theorem CInv.more {xs ys : List Int} {i n : Nat} (h : CInv xs i n 2 ys) (hx : crun 0 xs ≠ 2) : i < xs.length := by
  have := h.le
  by_cases e : i = xs.length
  · have h1 := h.st
    rw [e, List.take_length] at h1
    exact absurd h1 hx
  · omega

end Go.Proofs.Qxb6000752a
