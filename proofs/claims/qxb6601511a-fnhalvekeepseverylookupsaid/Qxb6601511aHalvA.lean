/-
  Contracts on the road of FnHalveKeepsEveryLookup: zzBytes, ZZNewSeg, ZZSegState, ZZNewDir, ZZDirState.
-/
import Derived.Test.Qxb6601511aBase
import Derived.Deep.CutRange
import Derived.Deep.DeepCutAuto
namespace Go.Proofs.Qxb6601511a
open Go.RowKit

/-- the cells of a segment: depth, count, no tables -/
def segf (d n : Int) : Nat → Value := fun i => if i = 0 then .int .u64 d else if i = 1 then .int .i64 n else .slice none 0 0
/-- the cells of a directory -/
def dirf (shift depth deepest : Int) (segs below up : Value) (upEntry : Int) : Nat → Value := fun i =>
  if i = 0 then .int .u64 shift else if i = 1 then .int .u64 depth else if i = 2 then .int .i64 deepest else if i = 3 then segs else if i = 4 then below else if i = 5 then up else .int .i64 upEntry

set_option maxHeartbeats 400000 in
theorem bytes24 (a0 a1 a2 : Option Addr) (n0 n1 n2 c0 c1 c2 : Nat) (x3 x4 x5 x6 x7 x8 : Value) (w : World)
   (h0 : (n0:Int) ≤ 16384) (h1 : (n1:Int) ≤ 16384) (h2 : (n2:Int) ≤ 16384):
    Calls Try.prog 24 #[.slice a0 n0 c0, .slice a1 n1 c1, .slice a2 n2 c2, x3, x4, x5, x6, x7, x8] w fun e w' => e = .returned (.bool true) ∧ w' = w := by
  go_enter Try.func24, Try.ntmps24
  go_wp2
  go_ret
  exact ⟨rfl, rfl⟩

set_option maxHeartbeats 400000 in
theorem bytes24b (a0 a1 a2 : Option Addr) (n0 n1 n2 c0 c1 c2 : Nat) (x3 x4 x5 x6 x7 x8 : Value) (w : World)
   (h0 : (n0:Int) ≤ maxLen) (h1 : (n1:Int) ≤ maxLen) (h2 : (n2:Int) ≤ maxLen) :
    Calls Try.prog 24 #[.slice a0 n0 c0, .slice a1 n1 c1, .slice a2 n2 c2, x3, x4, x5, x6, x7, x8] w fun e w' => (∃ b, e = .returned (.bool b)) ∧ w' = w := by
  unfold maxLen at *
  go_enter Try.func24, Try.ntmps24
  go_wp2
  all_goals
    go_ret
    exact ⟨⟨_, rfl⟩, rfl⟩

set_option maxHeartbeats 400000 in
theorem newseg25 (d n : Int) (w : World) : Calls Try.prog 25 #[.int .u64 d, .int .i64 n] w fun e w' => e = .returned (.pointer (some ⟨w.heap.size, 0, none⟩)) ∧ w' = w.alloc (.cells #[.int .u64 d, .int .i64 n, .slice none 0 0, .slice none 0 0] 70) := by
  go_enter Try.func25, Try.ntmps25
  go_wp2
  go_ret
  exact ⟨rfl, rfl⟩

theorem seg_row (d n : Int) (w : World) : (w.alloc (.cells #[.int .u64 d, .int .i64 n, .slice none 0 0, .slice none 0 0] 70)).rowIs w.heap.size 70 4 (segf d n) :=
  World.rowIs_alloc w #[.int .u64 d, .int .i64 n, .slice none 0 0, .slice none 0 0] 70 (segf d n) (fun i hi => by
    have : i = 0 ∨ i = 1 ∨ i = 2 ∨ i = 3 := by simp at hi; omega
    rcases this with h | h | h | h <;> subst h <;> rfl)

set_option maxHeartbeats 400000 in
theorem segstate29 (b : Nat) (d n : Int) (w : World) (h : w.rowIs b 70 4 (segf d n)) : Calls Try.prog 29 #[.pointer (some ⟨b, 0, none⟩)] w fun e w' =>
    e = .returned (.tuple #[.int .u64 d, .int .i64 n, .bool true, .bool true]) ∧ ∃ m, w' = w.drewN m := by
  have c0 : w.cell? ⟨b, 0, none⟩ = some (.int .u64 d) := h.cell (i := 0) (by omega)
  have c1 : w.cell? ⟨b, 1, none⟩ = some (.int .i64 n) := h.cell (i := 1) (by omega)
  have c2 : w.cell? ⟨b, 2, none⟩ = some (.slice none 0 0) := h.cell (i := 2) (by omega)
  have c3 : w.cell? ⟨b, 3, none⟩ = some (.slice none 0 0) := h.cell (i := 3) (by omega)
  have e67 := fun w a n c n' c' => Lib.run_eql_slice_nil (P := Try.prog) w 67 _ a n c n' c' Try.underlying67
  have e68 := fun w a n c n' c' => Lib.run_eql_slice_nil (P := Try.prog) w 68 _ a n c n' c' Try.underlying68
  go_enter Try.func29, Try.ntmps29
  go_wp2
  go_quiet (fail)
  go_wp2
  exact bodyPost_ret (v := .tuple #[.int .u64 d, .int .i64 n, .bool true, .bool true]) (by simp [results, Try.results29, go_sem]) rfl ⟨rfl, _, rfl⟩

set_option maxHeartbeats 400000 in
theorem dirstate27 (b : Nat) (shift depth deepest upEntry : Int) (sa ba ua : Option Addr) (sl sc bl bc : Nat) (w : World) (h : w.rowIs b 73 7 (dirf shift depth deepest (.slice sa sl sc) (.slice ba bl bc) (.pointer ua) upEntry)) :
    Calls Try.prog 27 #[.pointer (some ⟨b, 0, none⟩)] w fun e w' =>
    e = .returned (.tuple #[.int .u64 shift, .int .u64 depth, .int .i64 deepest, .slice sa sl sc, .bool ba.isNone, .pointer ua, .int .i64 upEntry]) ∧ ∃ m, w' = w.drewN m := by
  have c0 : w.cell? ⟨b, 0, none⟩ = some (.int .u64 shift) := h.cell (i := 0) (by omega)
  have c1 : w.cell? ⟨b, 1, none⟩ = some (.int .u64 depth) := h.cell (i := 1) (by omega)
  have c2 : w.cell? ⟨b, 2, none⟩ = some (.int .i64 deepest) := h.cell (i := 2) (by omega)
  have c3 : w.cell? ⟨b, 3, none⟩ = some (.slice sa sl sc) := h.cell (i := 3) (by omega)
  have c4 : w.cell? ⟨b, 4, none⟩ = some (.slice ba bl bc) := h.cell (i := 4) (by omega)
  have c5 : w.cell? ⟨b, 5, none⟩ = some (.pointer ua) := h.cell (i := 5) (by omega)
  have c6 : w.cell? ⟨b, 6, none⟩ = some (.int .i64 upEntry) := h.cell (i := 6) (by omega)
  have e71 := fun w a n c n' c' => Lib.run_eql_slice_nil (P := Try.prog) w 71 _ a n c n' c' Try.underlying71
  go_enter Try.func27, Try.ntmps27
  go_wp2
  go_quiet (fail)
  go_wp2
  exact bodyPost_ret (v := .tuple #[.int .u64 shift, .int .u64 depth, .int .i64 deepest, .slice sa sl sc, .bool ba.isNone, .pointer ua, .int .i64 upEntry]) (by simp [results, Try.results27, go_sem]) rfl ⟨rfl, _, rfl⟩

end Go.Proofs.Qxb6601511a
