/-
  Contracts of the small functions on the road of FnInsertPlacesEntryExactly: zzBytes, zzLogShapeOK, at, ZZBuildLog.
-/
import Derived.Test.Qxb6601511aBase
namespace Go.Proofs.Qxb6601511a
open Go.RowKit

set_option maxHeartbeats 400000 in
theorem bytes15 (a0 a1 a2 a3 : Option Addr) (n0 n1 n2 n3 c0 c1 c2 c3 : Nat) (x4 x5 x6 x7 x8 x9 x10 x11 : Value) (w : World)
   (h0 : (n0:Int) ≤ 16384) (h1 : (n1:Int) ≤ 16384) (h2 : (n2:Int) ≤ 16384) (h3 : (n3:Int) ≤ 16384):
    Calls Try.prog 15 #[.slice a0 n0 c0, .slice a1 n1 c1, .slice a2 n2 c2, .slice a3 n3 c3, x4, x5, x6, x7, x8, x9, x10, x11] w fun e w' => e = .returned (.bool true) ∧ w' = w := by
  go_enter Try.func15, Try.ntmps15
  go_wp2
  go_ret
  exact ⟨rfl, rfl⟩

set_option maxHeartbeats 400000 in
theorem bytes15b (a0 a1 a2 a3 : Option Addr) (n0 n1 n2 n3 c0 c1 c2 c3 : Nat) (x4 x5 x6 x7 x8 x9 x10 x11 : Value) (w : World)
   (h0 : (n0:Int) ≤ maxLen) (h1 : (n1:Int) ≤ maxLen) (h2 : (n2:Int) ≤ maxLen) (h3 : (n3:Int) ≤ maxLen):
    Calls Try.prog 15 #[.slice a0 n0 c0, .slice a1 n1 c1, .slice a2 n2 c2, .slice a3 n3 c3, x4, x5, x6, x7, x8, x9, x10, x11] w fun e w' => (∃ b, e = .returned (.bool b)) ∧ w' = w := by
  unfold maxLen at *
  go_enter Try.func15, Try.ntmps15
  go_wp2
  all_goals
    go_ret
    exact ⟨⟨_, rfl⟩, rfl⟩

/-- what zzLogShapeOK answers -/
def shapeB (size head n : Int) : Bool := decide (0 ≤ n ∧ n ≤ size ∧ (0 < size → 0 ≤ head ∧ head < size))

set_option maxHeartbeats 400000 in
theorem shape9 (size head n : Int) (w : World) : Calls Try.prog 9 #[.int .i64 size, .int .i64 head, .int .i64 n] w fun e w' => e = .returned (.bool (shapeB size head n)) ∧ w' = w := by
  by_cases h1 : n < 0
  · have e : shapeB size head n = false := by simp [shapeB]; omega
    rw [e]; clear e
    go_enter Try.func9, Try.ntmps9
    go_wp2
    go_ret
    exact ⟨rfl, rfl⟩
  by_cases h2 : size < n
  · have e : shapeB size head n = false := by simp [shapeB]; omega
    rw [e]; clear e
    go_enter Try.func9, Try.ntmps9
    go_wp2
    go_ret
    exact ⟨rfl, rfl⟩
  by_cases h3 : 0 < size
  · by_cases h4 : head < 0
    · have e : shapeB size head n = false := by simp [shapeB]; omega
      rw [e]; clear e
      go_enter Try.func9, Try.ntmps9
      go_wp2
      go_ret
      exact ⟨rfl, rfl⟩
    by_cases h5 : size ≤ head
    · have e : shapeB size head n = false := by simp [shapeB]; omega
      rw [e]; clear e
      go_enter Try.func9, Try.ntmps9
      go_wp2
      go_ret
      exact ⟨rfl, rfl⟩
    · have e : shapeB size head n = true := by simp [shapeB]; omega
      rw [e]; clear e
      go_enter Try.func9, Try.ntmps9
      go_wp2
      go_ret
      exact ⟨rfl, rfl⟩
  · have e : shapeB size head n = true := by simp [shapeB]; omega
    rw [e]; clear e
    have hd : decide (0 < size) = false := by simpa using h3
    go_enter Try.func9, Try.ntmps9
    go_wp2
    go_ret
    exact ⟨rfl, rfl⟩

set_option maxHeartbeats 400000 in
theorem at32 (L B size : Nat) (p : Nat) (head n i : Int) (E : Nat → Nat → Int) (w : World) (hs : size ≤ 65536) (h0 : 0 ≤ head) (h1 : 0 ≤ i) (hlt : p < size)
    (hp : (head + i < size ∧ head + i = p) ∨ (size ≤ head + i ∧ head + i - size = p)) (hl : IsLog w L B size head n E) :
    Calls Try.prog 32 #[.pointer (some ⟨L, 0, none⟩), .int .i64 i] w fun e w' => e = .returned (.pointer (some ⟨B, p * 4, none⟩)) ∧ w' = w := by
  have c0 : w.cell? ⟨L, 0, none⟩ = some (.slice (some ⟨B, 0, none⟩) size size) := hl.1.cell (i := 0) (by omega)
  have c1 : w.cell? ⟨L, 1, none⟩ = some (.int .i64 head) := hl.1.cell (i := 1) (by omega)
  clear hl
  rcases hp with ⟨hp1, hp2⟩ | ⟨hp1, hp2⟩
  · have hq : (head + i).toNat = p := by omega
    go_enter Try.func32, Try.ntmps32
    go_wp2
    go_ret
    exact ⟨rfl, rfl⟩
  · have hq : (head + i - size).toNat = p := by omega
    go_enter Try.func32, Try.ntmps32
    go_wp2
    go_ret
    exact ⟨rfl, rfl⟩

def comp4 (f0 f1 f2 f3 : Nat → Int) : Nat → Nat → Int := fun p => ent (f0 p) (f1 p) (f2 p) (f3 p)

set_option maxHeartbeats 400000 in
theorem build16 (a0 a1 a2 a3 : Option Addr) (c0 c1 c2 c3 size : Nat) (head n : Int) (f0 f1 f2 f3 : Nat → Int) (w : World) (hs : size ≤ 65536)
   (r0 : 0 < size → ∃ b, a0 = some ⟨b, 0, none⟩ ∧ b < w.heap.size ∧ w.rowIs b 23 size (fun i => .int .u64 (f0 i))) 
   (r1 : 0 < size → ∃ b, a1 = some ⟨b, 0, none⟩ ∧ b < w.heap.size ∧ w.rowIs b 23 size (fun i => .int .u64 (f1 i))) 
   (r2 : 0 < size → ∃ b, a2 = some ⟨b, 0, none⟩ ∧ b < w.heap.size ∧ w.rowIs b 3 size (fun i => .int .i64 (f2 i))) 
   (r3 : 0 < size → ∃ b, a3 = some ⟨b, 0, none⟩ ∧ b < w.heap.size ∧ w.rowIs b 23 size (fun i => .int .u64 (f3 i))) : 
    Calls Try.prog 16 #[.slice a0 size c0, .slice a1 size c1, .slice a2 size c2, .slice a3 size c3, .int .i64 head, .int .i64 n] w fun e w' =>
      e = .returned (.pointer (some ⟨w.heap.size + 1, 0, none⟩)) ∧ Below w.heap.size w w' ∧ w'.heap.size = w.heap.size + 2 ∧ IsLog w' (w.heap.size + 1) w.heap.size size head n (comp4 f0 f1 f2 f3) := by
  have hmk := run_make61 size hs
  go_enter Try.func16, Try.ntmps16
  go_wp2
  go_loopw [20] (fun i wr => ∃ k : Nat, k ≤ size ∧ i = .int .i64 k ∧ wr.rowIs w.heap.size 61 (size * 4) (rowf (fun p => if p < k then comp4 f0 f1 f2 f3 p else fun _ => 0)) ∧ Below w.heap.size w wr ∧ wr.heap.size = w.heap.size + 1)
     (fun i _ => size - (intOf i).toNat)
  case atStart => exact ⟨0, Nat.zero_le _, rfl, by simpa using made61 w size, (Below.refl _ _).alloc (Nat.le_refl _) _, by simp⟩
  case round =>
    obtain ⟨k, hk, rfl, hrow, hbel, hsz⟩ := hrel
    by_cases hlt : k < size
    · obtain ⟨b0, rfl, hb0, q0⟩ := r0 (by omega)
      obtain ⟨b1, rfl, hb1, q1⟩ := r1 (by omega)
      obtain ⟨b2, rfl, hb2, q2⟩ := r2 (by omega)
      obtain ⟨b3, rfl, hb3, q3⟩ := r3 (by omega)
      have g0 : wr.cell? ⟨b0, k, none⟩ = some (.int .u64 (f0 k)) := (hbel.cell hb0).trans (q0.cell hlt)
      have g1 : wr.cell? ⟨b1, k, none⟩ = some (.int .u64 (f1 k)) := (hbel.cell hb1).trans (q1.cell hlt)
      have g2 : wr.cell? ⟨b2, k, none⟩ = some (.int .i64 (f2 k)) := (hbel.cell hb2).trans (q2.cell hlt)
      have g3 : wr.cell? ⟨b3, k, none⟩ = some (.int .u64 (f3 k)) := (hbel.cell hb3).trans (q3.cell hlt)
      have s0 := row_cell0 hrow k hlt
      have s1 := row_cell1 hrow k hlt
      have s2 := row_cell2 hrow k hlt
      have s3 := row_cell3 hrow k hlt
      have z0 := hrow.frozen (k * 4)
      have z1 := hrow.frozen (k * 4 + 1)
      have z2 := hrow.frozen (k * 4 + 2)
      have z3 := hrow.frozen (k * 4 + 3)
      have R := row_put hrow k (f0 k) (f1 k) (f2 k) (f3 k)
      clear r0 r1 r2 r3 q0 q1 q2 q3
      go_wp2
      go_region
      go_wp2
      go_roundw
      case rel => 
        refine ⟨k + 1, by omega, by go_num, ?_, ?_, by simpa using hsz⟩
        · refine World.rowIs.drew (R.congr fun o _ => ?_)
          unfold rowf
          by_cases e : o / 4 = k
          · rw [e]; simp [comp4]
          · have : (o / 4 < k + 1) ↔ (o / 4 < k) := by omega
            simp [e, this]
        · exact ((((hbel.setCell (Nat.le_refl _) _).setCell (Nat.le_refl _) _).setCell (Nat.le_refl _) _).setCell (Nat.le_refl _) _).drew
      case measure => simp [intOf]; omega
    · go_wp2
      go_ret
      refine ⟨rfl, hbel.alloc (by omega) _, by simp [hsz], ?_, ?_⟩
      · rw [← hsz]
        exact World.rowIs_alloc wr #[.slice (some ⟨w.heap.size, 0, none⟩) size size, .int .i64 head, .int .i64 n] 63 (logf w.heap.size size head n) (fun i hi => by
          have : i = 0 ∨ i = 1 ∨ i = 2 := by simp at hi; omega
          rcases this with h | h | h <;> subst h <;> rfl)
      · refine (hrow.congr fun o ho => ?_).alloc _
        have : o / 4 < k := by omega
        simp [rowf, this]

end Go.Proofs.Qxb6601511a
