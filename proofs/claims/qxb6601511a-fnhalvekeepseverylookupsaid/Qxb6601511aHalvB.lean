/-
  Contracts of ZZNewDir and (*indexDir).halve.
-/
import Derived.Test.Qxb6601511aHalvA
namespace Go.Proofs.Qxb6601511a
open Go.RowKit

theorem Try.info47 : (Try.prog.info? 47).map (fun i => (i.zero, i.size, i.bytes)) = some (some (.pointer none), 1, 8) := by kernel_rfl
theorem Try.info49 : (Try.prog.info? 49).map (fun i => (i.zero, i.size, i.bytes)) = some (some (.pointer none), 1, 8) := by kernel_rfl

theorem run_make46 (n : Nat) (hn : n ≤ 65536) (kl kc : IntKind) (w : World) :
    (Instr.makeSlice 46 (.int kl (n : Int)) (.int kc (n : Int))).run Try.prog w = .ok (.slice (some ⟨w.heap.size, 0, none⟩) n n) (w.alloc (.cells (madeCells #[.pointer none] n) 47)) :=
  run_make_row' (P := Try.prog) 46 47 (.pointer none) 8 Try.underlying46 Try.info47 rfl kl kc n (by omega) (by omega) w
theorem run_make71 (n : Nat) (hn : n ≤ 65536) (kl kc : IntKind) (w : World) :
    (Instr.makeSlice 71 (.int kl (n : Int)) (.int kc (n : Int))).run Try.prog w = .ok (.slice (some ⟨w.heap.size, 0, none⟩) n n) (w.alloc (.cells (madeCells #[.pointer none] n) 49)) :=
  run_make_row' (P := Try.prog) 71 49 (.pointer none) 8 Try.underlying71 Try.info49 rfl kl kc n (by omega) (by omega) w

theorem dir_row (a b c : Int) (s be u : Value) (e : Int) (w : World) : (w.alloc (.cells #[.int .u64 a, .int .u64 b, .int .i64 c, s, be, u, .int .i64 e] 73)).rowIs w.heap.size 73 7 (dirf a b c s be u e) :=
  World.rowIs_alloc w #[.int .u64 a, .int .u64 b, .int .i64 c, s, be, u, .int .i64 e] 73 (dirf a b c s be u e) (fun i hi => by
    have : i = 0 ∨ i = 1 ∨ i = 2 ∨ i = 3 ∨ i = 4 ∨ i = 5 ∨ i = 6 := by simp at hi; omega
    rcases this with h | h | h | h | h | h | h <;> subst h <;> rfl)

theorem dirf_set4 {w : World} {D : Nat} {a b c : Int} {s be u : Value} {e : Int} (h : w.rowIs D 73 7 (dirf a b c s be u e)) (v : Value) : (w.setCell ⟨D, 4, none⟩ v).rowIs D 73 7 (dirf a b c s v u e) :=
  (h.set 4 v).congr fun i hi => by
    have : i = 0 ∨ i = 1 ∨ i = 2 ∨ i = 3 ∨ i = 4 ∨ i = 5 ∨ i = 6 := by omega
    rcases this with h | h | h | h | h | h | h <;> subst h <;> rfl
theorem dirf_set5 {w : World} {D : Nat} {a b c : Int} {s be u : Value} {e : Int} (h : w.rowIs D 73 7 (dirf a b c s be u e)) (v : Value) : (w.setCell ⟨D, 5, none⟩ v).rowIs D 73 7 (dirf a b c s be v e) :=
  (h.set 5 v).congr fun i hi => by
    have : i = 0 ∨ i = 1 ∨ i = 2 ∨ i = 3 ∨ i = 4 ∨ i = 5 ∨ i = 6 := by omega
    rcases this with h | h | h | h | h | h | h <;> subst h <;> rfl
theorem dirf_set3 {w : World} {D : Nat} {a b c : Int} {s be u : Value} {e : Int} (h : w.rowIs D 73 7 (dirf a b c s be u e)) (v : Value) : (w.setCell ⟨D, 3, none⟩ v).rowIs D 73 7 (dirf a b c v be u e) :=
  (h.set 3 v).congr fun i hi => by
    have : i = 0 ∨ i = 1 ∨ i = 2 ∨ i = 3 ∨ i = 4 ∨ i = 5 ∨ i = 6 := by omega
    rcases this with h | h | h | h | h | h | h <;> subst h <;> rfl
theorem dirf_set2 {w : World} {D : Nat} {a b c : Int} {s be u : Value} {e : Int} (h : w.rowIs D 73 7 (dirf a b c s be u e)) (v : Int) : (w.setCell ⟨D, 2, none⟩ (.int .i64 v)).rowIs D 73 7 (dirf a b v s be u e) :=
  (h.set 2 _).congr fun i hi => by
    have : i = 0 ∨ i = 1 ∨ i = 2 ∨ i = 3 ∨ i = 4 ∨ i = 5 ∨ i = 6 := by omega
    rcases this with h | h | h | h | h | h | h <;> subst h <;> rfl
theorem dirf_set1 {w : World} {D : Nat} {a b c : Int} {s be u : Value} {e : Int} (h : w.rowIs D 73 7 (dirf a b c s be u e)) (v : Int) : (w.setCell ⟨D, 1, none⟩ (.int .u64 v)).rowIs D 73 7 (dirf a v c s be u e) :=
  (h.set 1 _).congr fun i hi => by
    have : i = 0 ∨ i = 1 ∨ i = 2 ∨ i = 3 ∨ i = 4 ∨ i = 5 ∨ i = 6 := by omega
    rcases this with h | h | h | h | h | h | h <;> subst h <;> rfl

/-- what ZZNewDir leaves: the directory at block D, its parent (an empty directory) where one is made -/
def NewDir (w w' : World) (shift depth deepest : Int) (segs : Value) (upMade : Bool) (upEntry : Int) : Prop :=
  Below w.heap.size w w' ∧ w.heap.size < w'.heap.size ∧ ∃ ba ua bl bc, w'.rowIs w.heap.size 73 7 (dirf shift depth deepest segs (.slice ba bl bc) (.pointer ua) upEntry) ∧
    (upMade = false → ua = none) ∧ (upMade = true → ∃ U, ua = some ⟨U, 0, none⟩ ∧ w.heap.size < U ∧ U < w'.heap.size ∧ w'.rowIs U 73 7 (dirf 0 0 0 (.slice none 0 0) (.slice none 0 0) (.pointer none) 0))

set_option maxHeartbeats 1000000 in
theorem newdir26 (shift depth deepest upEntry : Int) (sa : Option Addr) (sl sc : Nat) (belowMade upMade : Bool) (w : World) (hs : sl ≤ 65536) :
    Calls Try.prog 26 #[.int .u64 shift, .int .u64 depth, .int .i64 deepest, .slice sa sl sc, .bool belowMade, .bool upMade, .int .i64 upEntry] w fun e w' =>
      e = .returned (.pointer (some ⟨w.heap.size, 0, none⟩)) ∧ NewDir w w' shift depth deepest (.slice sa sl sc) upMade upEntry := by
  have hm := run_make71 sl hs
  have R := dir_row shift depth deepest (.slice sa sl sc) (.slice none 0 0) (.pointer none) upEntry w
  have hb := (Below.refl w.heap.size w).alloc (Nat.le_refl _) (.cells #[.int .u64 shift, .int .u64 depth, .int .i64 deepest, .slice sa sl sc, .slice none 0 0, .pointer none, .int .i64 upEntry] 73)
  have hz : (w.alloc (.cells #[.int .u64 shift, .int .u64 depth, .int .i64 deepest, .slice sa sl sc, .slice none 0 0, .pointer none, .int .i64 upEntry] 73)).heap.size = w.heap.size + 1 := by simp
  go_enter Try.func26, Try.ntmps26
  go_upto_region 2 with (fail)
  generalize w.alloc (.cells #[.int .u64 shift, .int .u64 depth, .int .i64 deepest, .slice sa sl sc, .slice none 0 0, .pointer none, .int .i64 upEntry] 73) = w1 at *
  cases belowMade
  · cases upMade
    · go_wp2
      go_ret
      exact ⟨rfl, hb, by omega, none, none, 0, 0, R, fun _ => rfl, fun h => by cases h⟩
    · have R2 := R.alloc (.cells #[.int .u64 0, .int .u64 0, .int .i64 0, .slice none 0 0, .slice none 0 0, .pointer none, .int .i64 0] 73)
      have c5 : (w1.alloc (.cells #[.int .u64 0, .int .u64 0, .int .i64 0, .slice none 0 0, .slice none 0 0, .pointer none, .int .i64 0] 73)).cell? ⟨w.heap.size, 5, none⟩ = some (.pointer none) := R2.cell (i := 5) (by omega)
      have f5 := R2.frozen 5
      have RU := dir_row 0 0 0 (.slice none 0 0) (.slice none 0 0) (.pointer none) 0 (w1.setCell ⟨w.heap.size, 5, none⟩ (.pointer (some ⟨w.heap.size + 1, 0, none⟩)))
      rw [show (w1.setCell ⟨w.heap.size, 5, none⟩ (.pointer (some ⟨w.heap.size + 1, 0, none⟩))).heap.size = w.heap.size + 1 by simpa using hz] at RU
      go_wp2
      go_ret
      exact ⟨rfl, (hb.setCell (Nat.le_refl _) _).alloc (by simp; omega) _, by simp; omega, none, some ⟨w.heap.size + 1, 0, none⟩, 0, 0, (dirf_set5 R _).alloc _, (fun h => by cases h), fun _ => ⟨_, rfl, by omega, by simp; omega, RU⟩⟩
  · have R1 := R.alloc (.cells (madeCells #[.pointer none] sl) 49)
    have c4 : (w1.alloc (.cells (madeCells #[.pointer none] sl) 49)).cell? ⟨w.heap.size, 4, none⟩ = some (.slice none 0 0) := R1.cell (i := 4) (by omega)
    have f4 := R1.frozen 4
    have hb1 := (hb.setCell (p := ⟨w.heap.size, 4, none⟩) (Nat.le_refl _) (.slice (some ⟨w.heap.size + 1, 0, none⟩) sl sl)).alloc (by simp; omega) (.cells (madeCells #[.pointer none] sl) 49)
    have R3 := (dirf_set4 R (.slice (some ⟨w.heap.size + 1, 0, none⟩) sl sl)).alloc (.cells (madeCells #[.pointer none] sl) 49)
    have hz3 : ((w1.setCell ⟨w.heap.size, 4, none⟩ (.slice (some ⟨w.heap.size + 1, 0, none⟩) sl sl)).alloc (.cells (madeCells #[.pointer none] sl) 49)).heap.size = w.heap.size + 2 := by simp [hz]
    go_upto_region 4 with (fail)
    generalize (w1.setCell ⟨w.heap.size, 4, none⟩ (.slice (some ⟨w.heap.size + 1, 0, none⟩) sl sl)).alloc (.cells (madeCells #[.pointer none] sl) 49) = w2 at *
    clear R R1 c4 f4 hm
    cases upMade
    · go_wp2
      go_ret
      exact ⟨rfl, hb1, by omega, _, none, _, _, R3, fun _ => rfl, fun h => by cases h⟩
    · have R2 := R3.alloc (.cells #[.int .u64 0, .int .u64 0, .int .i64 0, .slice none 0 0, .slice none 0 0, .pointer none, .int .i64 0] 73)
      have c5 : (w2.alloc (.cells #[.int .u64 0, .int .u64 0, .int .i64 0, .slice none 0 0, .slice none 0 0, .pointer none, .int .i64 0] 73)).cell? ⟨w.heap.size, 5, none⟩ = some (.pointer none) := R2.cell (i := 5) (by omega)
      have f5 := R2.frozen 5
      have RU := dir_row 0 0 0 (.slice none 0 0) (.slice none 0 0) (.pointer none) 0 (w2.setCell ⟨w.heap.size, 5, none⟩ (.pointer (some ⟨w.heap.size + 2, 0, none⟩)))
      rw [show (w2.setCell ⟨w.heap.size, 5, none⟩ (.pointer (some ⟨w.heap.size + 2, 0, none⟩))).heap.size = w.heap.size + 2 by simpa using hz3] at RU
      go_wp2
      go_ret
      exact ⟨rfl, (hb1.setCell (Nat.le_refl _) _).alloc (by simp; omega) _, by simp; omega, _, some ⟨w.heap.size + 2, 0, none⟩, _, _, (dirf_set5 R3 _).alloc _, (fun h => by cases h), fun _ => ⟨_, rfl, by omega, by simp; omega, RU⟩⟩

end Go.Proofs.Qxb6601511a
