/-
  The walk of ZZBeginValue (28): out of whatever contract of beginValue.
-/
import Derived.Test.Qxb6000752aBeginO
namespace Go.Proofs.Qxb6000752a
open Go.RowKit

theorem zblk_all {w : World} {zb : Nat} {z : Sc} (h : ZBlk w zb z) (z' : Sc) : ZBlk ((((((((((w.setCell ⟨zb, 0, none⟩ (.int .u8 z'.st)).setCell ⟨zb, 1, none⟩ (.int .i64 z'.dep)).setCell ⟨zb, 2, none⟩ (.int .u64 z'.ok)).setCell ⟨zb, 3, none⟩ (.slice z'.ka z'.kn z'.kc)).setCell ⟨zb, 4, none⟩ (.int .i64 z'.mem)).setCell ⟨zb, 5, none⟩ (.int .i64 z'.deep)).setCell ⟨zb, 6, none⟩ (.bool z'.name)).setCell ⟨zb, 7, none⟩ (.string z'.lit)).setCell ⟨zb, 8, none⟩ (.int .i64 z'.ms)).setCell ⟨zb, 9, none⟩ (.int .i64 z'.pl)) zb z' := by
  have h0 : (w.setCell ⟨zb, 0, none⟩ (.int .u8 z'.st)).heap[zb]? = some (.cells #[.int .u8 z'.st, .int .i64 z.dep, .int .u64 z.ok, .slice z.ka z.kn z.kc, .int .i64 z.mem, .int .i64 z.deep, .bool z.name, .string z.lit, .int .i64 z.ms, .int .i64 z.pl] 42 (0, 0)) := blkset h
  have h1 : ((w.setCell ⟨zb, 0, none⟩ (.int .u8 z'.st)).setCell ⟨zb, 1, none⟩ (.int .i64 z'.dep)).heap[zb]? = some (.cells #[.int .u8 z'.st, .int .i64 z'.dep, .int .u64 z.ok, .slice z.ka z.kn z.kc, .int .i64 z.mem, .int .i64 z.deep, .bool z.name, .string z.lit, .int .i64 z.ms, .int .i64 z.pl] 42 (0, 0)) := blkset h0
  have h2 : (((w.setCell ⟨zb, 0, none⟩ (.int .u8 z'.st)).setCell ⟨zb, 1, none⟩ (.int .i64 z'.dep)).setCell ⟨zb, 2, none⟩ (.int .u64 z'.ok)).heap[zb]? = some (.cells #[.int .u8 z'.st, .int .i64 z'.dep, .int .u64 z'.ok, .slice z.ka z.kn z.kc, .int .i64 z.mem, .int .i64 z.deep, .bool z.name, .string z.lit, .int .i64 z.ms, .int .i64 z.pl] 42 (0, 0)) := blkset h1
  have h3 : ((((w.setCell ⟨zb, 0, none⟩ (.int .u8 z'.st)).setCell ⟨zb, 1, none⟩ (.int .i64 z'.dep)).setCell ⟨zb, 2, none⟩ (.int .u64 z'.ok)).setCell ⟨zb, 3, none⟩ (.slice z'.ka z'.kn z'.kc)).heap[zb]? = some (.cells #[.int .u8 z'.st, .int .i64 z'.dep, .int .u64 z'.ok, .slice z'.ka z'.kn z'.kc, .int .i64 z.mem, .int .i64 z.deep, .bool z.name, .string z.lit, .int .i64 z.ms, .int .i64 z.pl] 42 (0, 0)) := blkset h2
  have h4 : (((((w.setCell ⟨zb, 0, none⟩ (.int .u8 z'.st)).setCell ⟨zb, 1, none⟩ (.int .i64 z'.dep)).setCell ⟨zb, 2, none⟩ (.int .u64 z'.ok)).setCell ⟨zb, 3, none⟩ (.slice z'.ka z'.kn z'.kc)).setCell ⟨zb, 4, none⟩ (.int .i64 z'.mem)).heap[zb]? = some (.cells #[.int .u8 z'.st, .int .i64 z'.dep, .int .u64 z'.ok, .slice z'.ka z'.kn z'.kc, .int .i64 z'.mem, .int .i64 z.deep, .bool z.name, .string z.lit, .int .i64 z.ms, .int .i64 z.pl] 42 (0, 0)) := blkset h3
  have h5 : ((((((w.setCell ⟨zb, 0, none⟩ (.int .u8 z'.st)).setCell ⟨zb, 1, none⟩ (.int .i64 z'.dep)).setCell ⟨zb, 2, none⟩ (.int .u64 z'.ok)).setCell ⟨zb, 3, none⟩ (.slice z'.ka z'.kn z'.kc)).setCell ⟨zb, 4, none⟩ (.int .i64 z'.mem)).setCell ⟨zb, 5, none⟩ (.int .i64 z'.deep)).heap[zb]? = some (.cells #[.int .u8 z'.st, .int .i64 z'.dep, .int .u64 z'.ok, .slice z'.ka z'.kn z'.kc, .int .i64 z'.mem, .int .i64 z'.deep, .bool z.name, .string z.lit, .int .i64 z.ms, .int .i64 z.pl] 42 (0, 0)) := blkset h4
  have h6 : (((((((w.setCell ⟨zb, 0, none⟩ (.int .u8 z'.st)).setCell ⟨zb, 1, none⟩ (.int .i64 z'.dep)).setCell ⟨zb, 2, none⟩ (.int .u64 z'.ok)).setCell ⟨zb, 3, none⟩ (.slice z'.ka z'.kn z'.kc)).setCell ⟨zb, 4, none⟩ (.int .i64 z'.mem)).setCell ⟨zb, 5, none⟩ (.int .i64 z'.deep)).setCell ⟨zb, 6, none⟩ (.bool z'.name)).heap[zb]? = some (.cells #[.int .u8 z'.st, .int .i64 z'.dep, .int .u64 z'.ok, .slice z'.ka z'.kn z'.kc, .int .i64 z'.mem, .int .i64 z'.deep, .bool z'.name, .string z.lit, .int .i64 z.ms, .int .i64 z.pl] 42 (0, 0)) := blkset h5
  have h7 : ((((((((w.setCell ⟨zb, 0, none⟩ (.int .u8 z'.st)).setCell ⟨zb, 1, none⟩ (.int .i64 z'.dep)).setCell ⟨zb, 2, none⟩ (.int .u64 z'.ok)).setCell ⟨zb, 3, none⟩ (.slice z'.ka z'.kn z'.kc)).setCell ⟨zb, 4, none⟩ (.int .i64 z'.mem)).setCell ⟨zb, 5, none⟩ (.int .i64 z'.deep)).setCell ⟨zb, 6, none⟩ (.bool z'.name)).setCell ⟨zb, 7, none⟩ (.string z'.lit)).heap[zb]? = some (.cells #[.int .u8 z'.st, .int .i64 z'.dep, .int .u64 z'.ok, .slice z'.ka z'.kn z'.kc, .int .i64 z'.mem, .int .i64 z'.deep, .bool z'.name, .string z'.lit, .int .i64 z.ms, .int .i64 z.pl] 42 (0, 0)) := blkset h6
  have h8 : (((((((((w.setCell ⟨zb, 0, none⟩ (.int .u8 z'.st)).setCell ⟨zb, 1, none⟩ (.int .i64 z'.dep)).setCell ⟨zb, 2, none⟩ (.int .u64 z'.ok)).setCell ⟨zb, 3, none⟩ (.slice z'.ka z'.kn z'.kc)).setCell ⟨zb, 4, none⟩ (.int .i64 z'.mem)).setCell ⟨zb, 5, none⟩ (.int .i64 z'.deep)).setCell ⟨zb, 6, none⟩ (.bool z'.name)).setCell ⟨zb, 7, none⟩ (.string z'.lit)).setCell ⟨zb, 8, none⟩ (.int .i64 z'.ms)).heap[zb]? = some (.cells #[.int .u8 z'.st, .int .i64 z'.dep, .int .u64 z'.ok, .slice z'.ka z'.kn z'.kc, .int .i64 z'.mem, .int .i64 z'.deep, .bool z'.name, .string z'.lit, .int .i64 z'.ms, .int .i64 z.pl] 42 (0, 0)) := blkset h7
  have h9 : ((((((((((w.setCell ⟨zb, 0, none⟩ (.int .u8 z'.st)).setCell ⟨zb, 1, none⟩ (.int .i64 z'.dep)).setCell ⟨zb, 2, none⟩ (.int .u64 z'.ok)).setCell ⟨zb, 3, none⟩ (.slice z'.ka z'.kn z'.kc)).setCell ⟨zb, 4, none⟩ (.int .i64 z'.mem)).setCell ⟨zb, 5, none⟩ (.int .i64 z'.deep)).setCell ⟨zb, 6, none⟩ (.bool z'.name)).setCell ⟨zb, 7, none⟩ (.string z'.lit)).setCell ⟨zb, 8, none⟩ (.int .i64 z'.ms)).setCell ⟨zb, 9, none⟩ (.int .i64 z'.pl)).heap[zb]? = some (.cells #[.int .u8 z'.st, .int .i64 z'.dep, .int .u64 z'.ok, .slice z'.ka z'.kn z'.kc, .int .i64 z'.mem, .int .i64 z'.deep, .bool z'.name, .string z'.lit, .int .i64 z'.ms, .int .i64 z'.pl] 42 (0, 0)) := blkset h8
  exact h9
theorem rest_all (w : World) (zb : Nat) (z' : Sc) : Rest (fun k => k = zb) w ((((((((((w.setCell ⟨zb, 0, none⟩ (.int .u8 z'.st)).setCell ⟨zb, 1, none⟩ (.int .i64 z'.dep)).setCell ⟨zb, 2, none⟩ (.int .u64 z'.ok)).setCell ⟨zb, 3, none⟩ (.slice z'.ka z'.kn z'.kc)).setCell ⟨zb, 4, none⟩ (.int .i64 z'.mem)).setCell ⟨zb, 5, none⟩ (.int .i64 z'.deep)).setCell ⟨zb, 6, none⟩ (.bool z'.name)).setCell ⟨zb, 7, none⟩ (.string z'.lit)).setCell ⟨zb, 8, none⟩ (.int .i64 z'.ms)).setCell ⟨zb, 9, none⟩ (.int .i64 z'.pl)) := (Rest.set (Rest.set (Rest.set (Rest.set (Rest.set (Rest.set (Rest.set (Rest.set (Rest.set (rest_set1 _ _ _ _) rfl _ _) rfl _ _) rfl _ _) rfl _ _) rfl _ _) rfl _ _) rfl _ _) rfl _ _) rfl _ _)

set_option maxHeartbeats 1600000 in
theorem zz_gen (zb : Nat) (c : Int) (z : Sc) (w : World) (v : Int) (Q : World → Sc → Prop) (hz : ZBlk w zb z)
    (hc : Calls Try.prog 37 #[.pointer (some ⟨w.heap.size, 0, none⟩), .int .u8 c] (w.alloc (.cells (sArr z) 57)) fun e w2 => e = .returned (.int .u8 v) ∧ ∃ z', SBlk w2 w.heap.size z' ∧ Q w2 z' ∧ ZBlk w2 zb z) :
    Calls Try.prog 28 #[.pointer (some ⟨zb, 0, none⟩), .int .u8 c] w fun e w' => e = .returned (.int .u8 v) ∧ ∃ w2 z', Q w2 z' ∧ ZBlk w' zb z' ∧ Rest (fun k => k = zb) w2 w' := by
  have hlt := blklt hz
  have d0 : w.cell? ⟨zb, 0, none⟩ = some (.int .u8 z.st) := blkcell hz 0
  have d1 : w.cell? ⟨zb, 1, none⟩ = some (.int .i64 z.dep) := blkcell hz 1
  have d2 : w.cell? ⟨zb, 2, none⟩ = some (.int .u64 z.ok) := blkcell hz 2
  have d3 : w.cell? ⟨zb, 3, none⟩ = some (.slice z.ka z.kn z.kc) := blkcell hz 3
  have d4 : w.cell? ⟨zb, 4, none⟩ = some (.int .i64 z.mem) := blkcell hz 4
  have d5 : w.cell? ⟨zb, 5, none⟩ = some (.int .i64 z.deep) := blkcell hz 5
  have d6 : w.cell? ⟨zb, 6, none⟩ = some (.bool z.name) := blkcell hz 6
  have d7 : w.cell? ⟨zb, 7, none⟩ = some (.string z.lit) := blkcell hz 7
  have d8 : w.cell? ⟨zb, 8, none⟩ = some (.int .i64 z.ms) := blkcell hz 8
  have d9 : w.cell? ⟨zb, 9, none⟩ = some (.int .i64 z.pl) := blkcell hz 9
  have HC : Hid (Calls Try.prog 37 #[.pointer (some ⟨w.heap.size, 0, none⟩), .int .u8 c] (w.alloc (.cells #[.int .u8 z.st, .int .i64 z.dep, .int .u64 z.ok, .slice z.ka z.kn z.kc, .int .i64 z.mem, .int .i64 z.deep, .bool z.name, .int .i64 0, .string z.lit, .bool false, .bool false, .int .i64 0, .int .i64 0, .int .i64 z.ms, .int .i64 0, .int .i64 0, .int .i64 z.pl] 57)) fun e w2 => e = .returned (.int .u8 v) ∧ ∃ z', SBlk w2 w.heap.size z' ∧ Q w2 z' ∧ ZBlk w2 zb z) := hc
  clear hc hz
  go_enter Try.func28, Try.ntmps28
  go_wp2_with fail
  have hcc : Calls Try.prog 37 #[.pointer (some ⟨w.heap.size, 0, none⟩), .int .u8 c] (w.alloc (.cells #[.int .u8 z.st, .int .i64 z.dep, .int .u64 z.ok, .slice z.ka z.kn z.kc, .int .i64 z.mem, .int .i64 z.deep, .bool z.name, .int .i64 0, .string z.lit, .bool false, .bool false, .int .i64 0, .int .i64 0, .int .i64 z.ms, .int .i64 0, .int .i64 0, .int .i64 z.pl] 57)) fun e w2 => e = .returned (.int .u8 v) ∧ ∃ z', SBlk w2 w.heap.size z' ∧ Q w2 z' ∧ ZBlk w2 zb z := HC.out
  refine hcc.mono ?_
  clear hcc
  rintro e w2 ⟨rfl, z', hs, hq, hz⟩
  have s0 : w2.cell? ⟨w.heap.size, 0, none⟩ = some (.int .u8 z'.st) := blkcell hs 0
  have s1 : w2.cell? ⟨w.heap.size, 1, none⟩ = some (.int .i64 z'.dep) := blkcell hs 1
  have s2 : w2.cell? ⟨w.heap.size, 2, none⟩ = some (.int .u64 z'.ok) := blkcell hs 2
  have s3 : w2.cell? ⟨w.heap.size, 3, none⟩ = some (.slice z'.ka z'.kn z'.kc) := blkcell hs 3
  have s4 : w2.cell? ⟨w.heap.size, 4, none⟩ = some (.int .i64 z'.mem) := blkcell hs 4
  have s5 : w2.cell? ⟨w.heap.size, 5, none⟩ = some (.int .i64 z'.deep) := blkcell hs 5
  have s6 : w2.cell? ⟨w.heap.size, 6, none⟩ = some (.bool z'.name) := blkcell hs 6
  have s7 : w2.cell? ⟨w.heap.size, 8, none⟩ = some (.string z'.lit) := blkcell hs 8
  have s8 : w2.cell? ⟨w.heap.size, 13, none⟩ = some (.int .i64 z'.ms) := blkcell hs 13
  have s9 : w2.cell? ⟨w.heap.size, 16, none⟩ = some (.int .i64 z'.pl) := blkcell hs 16
  have e0 : w2.cell? ⟨zb, 0, none⟩ = some (.int .u8 z.st) := blkcell hz 0
  have f0 : w2.frozen? ⟨zb, 0, none⟩ = false := blkfree hz 0
  have e1 : w2.cell? ⟨zb, 1, none⟩ = some (.int .i64 z.dep) := blkcell hz 1
  have f1 : w2.frozen? ⟨zb, 1, none⟩ = false := blkfree hz 1
  have e2 : w2.cell? ⟨zb, 2, none⟩ = some (.int .u64 z.ok) := blkcell hz 2
  have f2 : w2.frozen? ⟨zb, 2, none⟩ = false := blkfree hz 2
  have e3 : w2.cell? ⟨zb, 3, none⟩ = some (.slice z.ka z.kn z.kc) := blkcell hz 3
  have f3 : w2.frozen? ⟨zb, 3, none⟩ = false := blkfree hz 3
  have e4 : w2.cell? ⟨zb, 4, none⟩ = some (.int .i64 z.mem) := blkcell hz 4
  have f4 : w2.frozen? ⟨zb, 4, none⟩ = false := blkfree hz 4
  have e5 : w2.cell? ⟨zb, 5, none⟩ = some (.int .i64 z.deep) := blkcell hz 5
  have f5 : w2.frozen? ⟨zb, 5, none⟩ = false := blkfree hz 5
  have e6 : w2.cell? ⟨zb, 6, none⟩ = some (.bool z.name) := blkcell hz 6
  have f6 : w2.frozen? ⟨zb, 6, none⟩ = false := blkfree hz 6
  have e7 : w2.cell? ⟨zb, 7, none⟩ = some (.string z.lit) := blkcell hz 7
  have f7 : w2.frozen? ⟨zb, 7, none⟩ = false := blkfree hz 7
  have e8 : w2.cell? ⟨zb, 8, none⟩ = some (.int .i64 z.ms) := blkcell hz 8
  have f8 : w2.frozen? ⟨zb, 8, none⟩ = false := blkfree hz 8
  have e9 : w2.cell? ⟨zb, 9, none⟩ = some (.int .i64 z.pl) := blkcell hz 9
  have f9 : w2.frozen? ⟨zb, 9, none⟩ = false := blkfree hz 9
  have hne : ¬ w.heap.size = zb := by omega
  have HZ : Hid (ZBlk w2 zb z) := hz
  have HQ : Hid (Q w2 z') := hq
  clear hz hq hs HC d0 d1 d2 d3 d4 d5 d6 d7 d8 d9
  go_wp2
  go_ret
  exact ⟨rfl, w2, z', HQ.out, zblk_all HZ.out z', rest_all w2 zb z'⟩

end Go.Proofs.Qxb6000752a
