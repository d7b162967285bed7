/-
  The walk of beginValue (37).
-/
import Derived.Test.Qxb6000752aOpen
namespace Go.Proofs.Qxb6000752a
open Go.RowKit

/-- A member is counted at depth one. -/
def pre1 (z : Sc) : Sc := if z.dep = 1 then { z with mem := wrap64 (z.mem + 1), ms := z.pl } else z
theorem pre1_one {z : Sc} (h : z.dep = 1) : pre1 z = { z with mem := wrap64 (z.mem + 1), ms := z.pl } := by unfold pre1; rw [if_pos h]
theorem pre1_not {z : Sc} (h : ¬ z.dep = 1) : pre1 z = z := by unfold pre1; rw [if_neg h]
theorem pre1_ka (z : Sc) : (pre1 z).ka = z.ka := by unfold pre1; split <;> rfl
theorem pre1_kn (z : Sc) : (pre1 z).kn = z.kn := by unfold pre1; split <;> rfl
theorem pre1_kc (z : Sc) : (pre1 z).kc = z.kc := by unfold pre1; split <;> rfl
theorem pre1_dep (z : Sc) : (pre1 z).dep = z.dep := by unfold pre1; split <;> rfl

/-- What a byte that is no bracket does. -/
def bv (c : Int) (z : Sc) : Int × Sc :=
  if c = 34 then (0, { z with st := 6, name := false })
  else if c = 45 then (0, { z with st := 9 })
  else if c = 48 then (0, { z with st := 10 })
  else if 49 ≤ c ∧ c ≤ 57 then (0, { z with st := 11 })
  else if c = 116 then (0, { z with st := 17, lit := ⟨#[114, 117, 101]⟩ })
  else if c = 102 then (0, { z with st := 17, lit := ⟨#[97, 108, 115, 101]⟩ })
  else if c = 110 then (0, { z with st := 17, lit := ⟨#[117, 108, 108]⟩ })
  else (3, z)

theorem bv_34 (z : Sc) : bv 34 z = (0, { z with st := 6, name := false }) := rfl
theorem bv_45 (z : Sc) : bv 45 z = (0, { z with st := 9 }) := rfl
theorem bv_48 (z : Sc) : bv 48 z = (0, { z with st := 10 }) := rfl
theorem bv_116 (z : Sc) : bv 116 z = (0, { z with st := 17, lit := ⟨#[114, 117, 101]⟩ }) := rfl
theorem bv_102 (z : Sc) : bv 102 z = (0, { z with st := 17, lit := ⟨#[97, 108, 115, 101]⟩ }) := rfl
theorem bv_110 (z : Sc) : bv 110 z = (0, { z with st := 17, lit := ⟨#[117, 108, 108]⟩ }) := rfl
theorem bv_dig {c : Int} (h1 : 49 ≤ c) (h2 : c ≤ 57) (z : Sc) : bv c z = (0, { z with st := 11 }) := by
  unfold bv; rw [if_neg (by omega), if_neg (by omega), if_neg (by omega), if_pos ⟨h1, h2⟩]
theorem bv_none {c : Int} (h1 : c ≠ 34) (h2 : c ≠ 45) (h3 : ¬ (48 ≤ c ∧ c ≤ 57)) (h4 : c ≠ 116) (h5 : c ≠ 102) (h6 : c ≠ 110) (z : Sc) : bv c z = (3, z) := by
  unfold bv; rw [if_neg h1, if_neg h2, if_neg (by omega), if_neg (by omega), if_neg h4, if_neg h5, if_neg h6]

set_option maxHeartbeats 3200000 in
theorem begin_plain_one (s : Nat) (c : Int) (z : Sc) (w : World) (hc0 : 0 ≤ c) (hc1 : c ≤ 255) (h123 : c ≠ 123) (h91 : c ≠ 91) (hd : z.dep = 1) (hs : SBlk w s z) :
    Calls Try.prog 37 #[.pointer (some ⟨s, 0, none⟩), .int .u8 c] w fun e w' => e = .returned (.int .u8 (bv c (pre1 z)).1) ∧ SBlk w' s (bv c (pre1 z)).2 ∧ Rest (fun k => k = s) w w' := by
  have c0 : w.cell? ⟨s, 0, none⟩ = some (.int .u8 z.st) := blkcell hs 0
  have c1 : w.cell? ⟨s, 1, none⟩ = some (.int .i64 1) := by rw [← hd]; exact blkcell hs 1
  have c4 : w.cell? ⟨s, 4, none⟩ = some (.int .i64 z.mem) := blkcell hs 4
  have c6 : w.cell? ⟨s, 6, none⟩ = some (.bool z.name) := blkcell hs 6
  have c8 : w.cell? ⟨s, 8, none⟩ = some (.string z.lit) := blkcell hs 8
  have c13 : w.cell? ⟨s, 13, none⟩ = some (.int .i64 z.ms) := blkcell hs 13
  have c16 : w.cell? ⟨s, 16, none⟩ = some (.int .i64 z.pl) := blkcell hs 16
  have f0 : w.frozen? ⟨s, 0, none⟩ = false := blkfree hs 0
  have f4 : w.frozen? ⟨s, 4, none⟩ = false := blkfree hs 4
  have f6 : w.frozen? ⟨s, 6, none⟩ = false := blkfree hs 6
  have f8 : w.frozen? ⟨s, 8, none⟩ = false := blkfree hs 8
  have f13 : w.frozen? ⟨s, 13, none⟩ = false := blkfree hs 13
  rw [pre1_one hd]
  have HS : Hid (SBlk w s z) := hs
  clear hs hd
  by_cases h34 : c = 34
  · subst h34
    rw [bv_34]
    clear hc0 hc1 h123 h91
    go_enter Try.func37, Try.ntmps37
    go_wp2
    go_ret
    exact ⟨rfl, (blkset (blkset (blkset (blkset HS.out)))), (Rest.set (Rest.set (Rest.set (rest_set1 _ _ _ _) rfl _ _) rfl _ _) rfl _ _)⟩
  by_cases h45 : c = 45
  · subst h45
    rw [bv_45]
    clear hc0 hc1 h123 h91
    go_enter Try.func37, Try.ntmps37
    go_wp2
    go_ret
    exact ⟨rfl, (blkset (blkset (blkset HS.out))), (Rest.set (Rest.set (rest_set1 _ _ _ _) rfl _ _) rfl _ _)⟩
  by_cases h48 : c = 48
  · subst h48
    rw [bv_48]
    clear hc0 hc1 h123 h91
    go_enter Try.func37, Try.ntmps37
    go_wp2
    go_ret
    exact ⟨rfl, (blkset (blkset (blkset HS.out))), (Rest.set (Rest.set (rest_set1 _ _ _ _) rfl _ _) rfl _ _)⟩
  by_cases h116 : c = 116
  · subst h116
    rw [bv_116]
    clear hc0 hc1 h123 h91
    go_enter Try.func37, Try.ntmps37
    go_wp2
    go_ret
    exact ⟨rfl, (blkset (blkset (blkset (blkset HS.out)))), (Rest.set (Rest.set (Rest.set (rest_set1 _ _ _ _) rfl _ _) rfl _ _) rfl _ _)⟩
  by_cases h102 : c = 102
  · subst h102
    rw [bv_102]
    clear hc0 hc1 h123 h91
    go_enter Try.func37, Try.ntmps37
    go_wp2
    go_ret
    exact ⟨rfl, (blkset (blkset (blkset (blkset HS.out)))), (Rest.set (Rest.set (Rest.set (rest_set1 _ _ _ _) rfl _ _) rfl _ _) rfl _ _)⟩
  by_cases h110 : c = 110
  · subst h110
    rw [bv_110]
    clear hc0 hc1 h123 h91
    go_enter Try.func37, Try.ntmps37
    go_wp2
    go_ret
    exact ⟨rfl, (blkset (blkset (blkset (blkset HS.out)))), (Rest.set (Rest.set (Rest.set (rest_set1 _ _ _ _) rfl _ _) rfl _ _) rfl _ _)⟩
  by_cases hdg : 49 ≤ c ∧ c ≤ 57
  · obtain ⟨hg1, hg2⟩ := hdg
    rw [bv_dig hg1 hg2]
    clear h123 h91 h34 h45 h48 h116 h102 h110
    go_enter Try.func37, Try.ntmps37
    go_wp2
    go_ret
    exact ⟨rfl, (blkset (blkset (blkset HS.out))), (Rest.set (Rest.set (rest_set1 _ _ _ _) rfl _ _) rfl _ _)⟩
  rw [bv_none h34 h45 (by omega) h116 h102 h110]
  have b123 : (c == 123) = false := by simpa using h123
  have b91 : (c == 91) = false := by simpa using h91
  have b34 : (c == 34) = false := by simpa using h34
  have b45 : (c == 45) = false := by simpa using h45
  have b48 : (c == 48) = false := by simpa using h48
  have b116 : (c == 116) = false := by simpa using h116
  have b102 : (c == 102) = false := by simpa using h102
  have b110 : (c == 110) = false := by simpa using h110
  rcases (show c < 48 ∨ 57 < c from by omega) with hr | hr
  all_goals
    clear h123 h91 h34 h45 h48 h116 h102 h110 hdg
    go_enter Try.func37, Try.ntmps37
    go_wp2
    go_ret
    exact ⟨rfl, (blkset (blkset HS.out)), (Rest.set (rest_set1 _ _ _ _) rfl _ _)⟩

set_option maxHeartbeats 3200000 in
theorem begin_plain_not (s : Nat) (c : Int) (z : Sc) (w : World) (hc0 : 0 ≤ c) (hc1 : c ≤ 255) (h123 : c ≠ 123) (h91 : c ≠ 91) (hd : ¬ z.dep = 1) (hs : SBlk w s z) :
    Calls Try.prog 37 #[.pointer (some ⟨s, 0, none⟩), .int .u8 c] w fun e w' => e = .returned (.int .u8 (bv c (pre1 z)).1) ∧ SBlk w' s (bv c (pre1 z)).2 ∧ Rest (fun k => k = s) w w' := by
  have c0 : w.cell? ⟨s, 0, none⟩ = some (.int .u8 z.st) := blkcell hs 0
  have c1 : w.cell? ⟨s, 1, none⟩ = some (.int .i64 z.dep) := blkcell hs 1
  have c4 : w.cell? ⟨s, 4, none⟩ = some (.int .i64 z.mem) := blkcell hs 4
  have c6 : w.cell? ⟨s, 6, none⟩ = some (.bool z.name) := blkcell hs 6
  have c8 : w.cell? ⟨s, 8, none⟩ = some (.string z.lit) := blkcell hs 8
  have c13 : w.cell? ⟨s, 13, none⟩ = some (.int .i64 z.ms) := blkcell hs 13
  have c16 : w.cell? ⟨s, 16, none⟩ = some (.int .i64 z.pl) := blkcell hs 16
  have f0 : w.frozen? ⟨s, 0, none⟩ = false := blkfree hs 0
  have f4 : w.frozen? ⟨s, 4, none⟩ = false := blkfree hs 4
  have f6 : w.frozen? ⟨s, 6, none⟩ = false := blkfree hs 6
  have f8 : w.frozen? ⟨s, 8, none⟩ = false := blkfree hs 8
  have f13 : w.frozen? ⟨s, 13, none⟩ = false := blkfree hs 13
  rw [pre1_not hd]
  have HS : Hid (SBlk w s z) := hs
  have hdb : (z.dep == 1) = false := by simpa using hd
  clear hs hd
  by_cases h34 : c = 34
  · subst h34
    rw [bv_34]
    clear hc0 hc1 h123 h91
    go_enter Try.func37, Try.ntmps37
    go_wp2
    go_ret
    exact ⟨rfl, (blkset (blkset HS.out)), (Rest.set (rest_set1 _ _ _ _) rfl _ _)⟩
  by_cases h45 : c = 45
  · subst h45
    rw [bv_45]
    clear hc0 hc1 h123 h91
    go_enter Try.func37, Try.ntmps37
    go_wp2
    go_ret
    exact ⟨rfl, (blkset HS.out), (rest_set1 _ _ _ _)⟩
  by_cases h48 : c = 48
  · subst h48
    rw [bv_48]
    clear hc0 hc1 h123 h91
    go_enter Try.func37, Try.ntmps37
    go_wp2
    go_ret
    exact ⟨rfl, (blkset HS.out), (rest_set1 _ _ _ _)⟩
  by_cases h116 : c = 116
  · subst h116
    rw [bv_116]
    clear hc0 hc1 h123 h91
    go_enter Try.func37, Try.ntmps37
    go_wp2
    go_ret
    exact ⟨rfl, (blkset (blkset HS.out)), (Rest.set (rest_set1 _ _ _ _) rfl _ _)⟩
  by_cases h102 : c = 102
  · subst h102
    rw [bv_102]
    clear hc0 hc1 h123 h91
    go_enter Try.func37, Try.ntmps37
    go_wp2
    go_ret
    exact ⟨rfl, (blkset (blkset HS.out)), (Rest.set (rest_set1 _ _ _ _) rfl _ _)⟩
  by_cases h110 : c = 110
  · subst h110
    rw [bv_110]
    clear hc0 hc1 h123 h91
    go_enter Try.func37, Try.ntmps37
    go_wp2
    go_ret
    exact ⟨rfl, (blkset (blkset HS.out)), (Rest.set (rest_set1 _ _ _ _) rfl _ _)⟩
  by_cases hdg : 49 ≤ c ∧ c ≤ 57
  · obtain ⟨hg1, hg2⟩ := hdg
    rw [bv_dig hg1 hg2]
    clear h123 h91 h34 h45 h48 h116 h102 h110
    go_enter Try.func37, Try.ntmps37
    go_wp2
    go_ret
    exact ⟨rfl, (blkset HS.out), (rest_set1 _ _ _ _)⟩
  rw [bv_none h34 h45 (by omega) h116 h102 h110]
  have b123 : (c == 123) = false := by simpa using h123
  have b91 : (c == 91) = false := by simpa using h91
  have b34 : (c == 34) = false := by simpa using h34
  have b45 : (c == 45) = false := by simpa using h45
  have b48 : (c == 48) = false := by simpa using h48
  have b116 : (c == 116) = false := by simpa using h116
  have b102 : (c == 102) = false := by simpa using h102
  have b110 : (c == 110) = false := by simpa using h110
  rcases (show c < 48 ∨ 57 < c from by omega) with hr | hr
  all_goals
    clear h123 h91 h34 h45 h48 h116 h102 h110 hdg
    go_enter Try.func37, Try.ntmps37
    go_wp2
    go_ret
    exact ⟨rfl, HS.out, (rest_refl _ _)⟩

theorem begin_plain (s : Nat) (c : Int) (z : Sc) (w : World) (hc0 : 0 ≤ c) (hc1 : c ≤ 255) (h123 : c ≠ 123) (h91 : c ≠ 91) (hs : SBlk w s z) :
    Calls Try.prog 37 #[.pointer (some ⟨s, 0, none⟩), .int .u8 c] w fun e w' => e = .returned (.int .u8 (bv c (pre1 z)).1) ∧ SBlk w' s (bv c (pre1 z)).2 ∧ Rest (fun k => k = s) w w' := by
  by_cases hd : z.dep = 1
  · exact begin_plain_one s c z w hc0 hc1 h123 h91 hd hs
  · exact begin_plain_not s c z w hc0 hc1 h123 h91 hd hs

end Go.Proofs.Qxb6000752a
