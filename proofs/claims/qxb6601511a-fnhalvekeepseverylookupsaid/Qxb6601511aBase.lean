/-
  The plain words for the log's memory, and small laws on rows of cells. Own work for the seat b6601511a.
-/
import Derived.Test.Qxb6601511aRows
import Derived.WalkKit
import Derived.WalkSpells
import Derived.WalkLawsBesides
import Derived.BigRegion
import Derived.BigQuiet
import Derived.Deep.OwnRows
import Derived.Deep.LoopGhost
namespace Go.Proofs.Qxb6601511a
open Go.RowKit

/-- the kind of component c of an entry: hi, lo, n, seq -/
def kd (c : Nat) : IntKind := if c = 2 then .i64 else .u64
/-- the cells of places of four components -/
def rowf (E : Nat → Nat → Int) : Nat → Value := fun o => .int (kd (o % 4)) (E (o / 4) (o % 4))
/-- one entry by its four components -/
def ent (v0 v1 v2 v3 : Int) : Nat → Int := fun c => if c = 0 then v0 else if c = 1 then v1 else if c = 2 then v2 else v3
/-- the three cells of a log -/
def logf (B size : Nat) (head n : Int) : Nat → Value := fun i => if i = 0 then .slice (some ⟨B, 0, none⟩) size size else if i = 1 then .int .i64 head else .int .i64 n

/-- the log at block L, its places in block B -/
def IsLog (w : World) (L B size : Nat) (head n : Int) (E : Nat → Nat → Int) : Prop :=
  w.rowIs L 63 3 (logf B size head n) ∧ w.rowIs B 61 (size * 4) (rowf E)

theorem rowf_at (E : Nat → Nat → Int) (k c : Nat) (hc : c < 4) : rowf E (k * 4 + c) = .int (kd c) (E k c) := by
  have h1 : (k * 4 + c) % 4 = c := by omega
  have h2 : (k * 4 + c) / 4 = k := by omega
  simp [rowf, h1, h2]

theorem row_cell0 {w : World} {B N : Nat} {E : Nat → Nat → Int} (h : w.rowIs B 61 (N * 4) (rowf E)) (k : Nat) (hk : k < N) : w.cell? ⟨B, k * 4, none⟩ = some (.int .u64 (E k 0)) := by
  rw [h.cell (i := k * 4) (by omega)]; have := rowf_at E k 0 (by omega); simp at this; rw [this]; rfl
theorem row_cell1 {w : World} {B N : Nat} {E : Nat → Nat → Int} (h : w.rowIs B 61 (N * 4) (rowf E)) (k : Nat) (hk : k < N) : w.cell? ⟨B, k * 4 + 1, none⟩ = some (.int .u64 (E k 1)) := by
  rw [h.cell (i := k * 4 + 1) (by omega), rowf_at E k 1 (by omega)]; rfl
theorem row_cell2 {w : World} {B N : Nat} {E : Nat → Nat → Int} (h : w.rowIs B 61 (N * 4) (rowf E)) (k : Nat) (hk : k < N) : w.cell? ⟨B, k * 4 + 2, none⟩ = some (.int .i64 (E k 2)) := by
  rw [h.cell (i := k * 4 + 2) (by omega), rowf_at E k 2 (by omega)]; rfl
theorem row_cell3 {w : World} {B N : Nat} {E : Nat → Nat → Int} (h : w.rowIs B 61 (N * 4) (rowf E)) (k : Nat) (hk : k < N) : w.cell? ⟨B, k * 4 + 3, none⟩ = some (.int .u64 (E k 3)) := by
  rw [h.cell (i := k * 4 + 3) (by omega), rowf_at E k 3 (by omega)]; rfl

/-- an entry stored, four cells -/
theorem row_put {w : World} {B N : Nat} {E : Nat → Nat → Int} (h : w.rowIs B 61 N (rowf E)) (k : Nat) (v0 v1 v2 v3 : Int) :
    ((((w.setCell ⟨B, k * 4, none⟩ (.int .u64 v0)).setCell ⟨B, k * 4 + 1, none⟩ (.int .u64 v1)).setCell ⟨B, k * 4 + 2, none⟩ (.int .i64 v2)).setCell ⟨B, k * 4 + 3, none⟩ (.int .u64 v3)).rowIs B 61 N
      (rowf (fun p => if p = k then ent v0 v1 v2 v3 else E p)) := by
  refine ((((h.set _ _).set _ _).set _ _).set _ _).congr fun i _ => ?_
  by_cases hk : i / 4 = k
  · have : i = k * 4 ∨ i = k * 4 + 1 ∨ i = k * 4 + 2 ∨ i = k * 4 + 3 := by omega
    rcases this with h | h | h | h
    · subst h; simp [rowf, ent, kd]
    · subst h
      have e1 : (k * 4 + 1) % 4 = 1 := by omega
      simp [rowf, ent, kd, hk]
    · subst h
      have e1 : (k * 4 + 2) % 4 = 2 := by omega
      simp [rowf, ent, kd, hk]
    · subst h
      have e1 : (k * 4 + 3) % 4 = 3 := by omega
      simp [rowf, ent, kd, hk]
  · have a0 : ¬ i = k * 4 := by omega
    have a1 : ¬ i = k * 4 + 1 := by omega
    have a2 : ¬ i = k * 4 + 2 := by omega
    have a3 : ¬ i = k * 4 + 3 := by omega
    simp [rowf, a0, a1, a2, a3, hk]

theorem row_same {w w' : World} {b : Nat} {t : TypeId} {n : Nat} {f : Nat → Value} {B : Nat} (h : w.rowIs b t n f) (hb : Below B w w') (hlt : b < B) : w'.rowIs b t n f := h.of_block (hb.block b hlt)

theorem Try.info61 : (Try.prog.info? 61).map (fun i => (i.zero, i.size, i.bytes)) = some (some (.agg #[.int .u64 0, .int .u64 0, .int .i64 0, .int .u64 0]), 4, 32) := by kernel_rfl
theorem Try.info23 : (Try.prog.info? 23).map (fun i => (i.zero, i.size, i.bytes)) = some (some (.int .u64 0), 1, 8) := by kernel_rfl
theorem Try.info3 : (Try.prog.info? 3).map (fun i => (i.zero, i.size, i.bytes)) = some (some (.int .i64 0), 1, 8) := by kernel_rfl

theorem run_make61 (n : Nat) (hn : n ≤ 65536) (kl kc : IntKind) (w : World) :
    (Instr.makeSlice 59 (.int kl (n : Int)) (.int kc (n : Int))).run Try.prog w = .ok (.slice (some ⟨w.heap.size, 0, none⟩) n n) (w.alloc (.cells (madeCells #[.int .u64 0, .int .u64 0, .int .i64 0, .int .u64 0] (n * 4)) 61)) := by
  obtain ⟨i, hi, hzz⟩ := Option.map_eq_some_iff.1 Try.info61
  simp only [Prod.mk.injEq] at hzz
  obtain ⟨hz, hs, hb⟩ := hzz
  have hr := run_make (P := Try.prog) w 59 61 i _ Try.underlying59 hi hz kl kc n n (by omega) (Int.le_refl _) (by rw [hb]; omega) (by omega)
  simp only [Int.toNat_natCast, hs, Value.cells] at hr
  exact hr

theorem made61 (w : World) (n : Nat) : (w.alloc (.cells (madeCells #[.int .u64 0, .int .u64 0, .int .i64 0, .int .u64 0] (n * 4)) 61)).rowIs w.heap.size 61 (n * 4) (rowf fun _ _ => 0) := by
  have h := World.rowIs_alloc w (madeCells #[.int .u64 0, .int .u64 0, .int .i64 0, .int .u64 0] (n * 4)) 61 (rowf fun _ _ => 0) ?_
  · rw [size_madeCells] at h; exact h
  · intro i hi
    rw [size_madeCells] at hi
    have : i % 4 = 0 ∨ i % 4 = 1 ∨ i % 4 = 2 ∨ i % 4 = 3 := by omega
    rcases this with h | h | h | h <;> simp [madeCells, hi, rowf, kd, h]

end Go.Proofs.Qxb6601511a
