/-
  The contract of ZZUnpackLog.
-/
import Derived.Test.Qxb6601511aLogB
namespace Go.Proofs.Qxb6601511a
open Go.RowKit

theorem run_make22 (n : Nat) (hn : n ≤ 65536) (kl kc : IntKind) (w : World) :
    (Instr.makeSlice 22 (.int kl (n : Int)) (.int kc (n : Int))).run Try.prog w = .ok (.slice (some ⟨w.heap.size, 0, none⟩) n n) (w.alloc (.cells (madeCells #[.int .u64 0] n) 23)) :=
  run_make_row' (P := Try.prog) 22 23 (.int .u64 0) 8 Try.underlying22 Try.info23 rfl kl kc n (by omega) (by omega) w
theorem run_make31 (n : Nat) (hn : n ≤ 65536) (kl kc : IntKind) (w : World) :
    (Instr.makeSlice 31 (.int kl (n : Int)) (.int kc (n : Int))).run Try.prog w = .ok (.slice (some ⟨w.heap.size, 0, none⟩) n n) (w.alloc (.cells (madeCells #[.int .i64 0] n) 3)) :=
  run_make_row' (P := Try.prog) 31 3 (.int .i64 0) 8 Try.underlying31 Try.info3 rfl kl kc n (by omega) (by omega) w

/-- four new rows at block N on -/
def Rows4 (w : World) (N n : Nat) (f0 f1 f2 f3 : Nat → Int) : Prop :=
  w.rowIs N 23 n (fun i => .int .u64 (f0 i)) ∧ w.rowIs (N + 1) 23 n (fun i => .int .u64 (f1 i)) ∧ w.rowIs (N + 2) 3 n (fun i => .int .i64 (f2 i)) ∧ w.rowIs (N + 3) 23 n (fun i => .int .u64 (f3 i))

/-- the world behind four makes -/
theorem made4 (w : World) (n : Nat) :
    Rows4 ((((w.alloc (.cells (madeCells #[.int .u64 0] n) 23)).alloc (.cells (madeCells #[.int .u64 0] n) 23)).alloc (.cells (madeCells #[.int .i64 0] n) 3)).alloc (.cells (madeCells #[.int .u64 0] n) 23)) w.heap.size n (fun _ => 0) (fun _ => 0) (fun _ => 0) (fun _ => 0) := by
  have m0 := World.rowIs_made w (.int .u64 0) n 23
  have m1 := World.rowIs_made (w.alloc (.cells (madeCells #[.int .u64 0] n) 23)) (.int .u64 0) n 23
  have m2 := World.rowIs_made ((w.alloc (.cells (madeCells #[.int .u64 0] n) 23)).alloc (.cells (madeCells #[.int .u64 0] n) 23)) (.int .i64 0) n 3
  have m3 := World.rowIs_made (((w.alloc (.cells (madeCells #[.int .u64 0] n) 23)).alloc (.cells (madeCells #[.int .u64 0] n) 23)).alloc (.cells (madeCells #[.int .i64 0] n) 3)) (.int .u64 0) n 23
  refine ⟨((m0.alloc _).alloc _).alloc _, ?_, ?_, ?_⟩
  · simpa using ((m1.alloc _).alloc _)
  · simpa using (m2.alloc _)
  · simpa using m3

/-- one round of a filling loop: place k of each of the four rows is written -/
theorem rows4_put {w : World} {N n : Nat} {f0 f1 f2 f3 : Nat → Int} (h : Rows4 w N n f0 f1 f2 f3) (k : Nat) (v0 v1 v2 v3 : Int) :
    Rows4 ((((w.setCell ⟨N, k, none⟩ (.int .u64 v0)).setCell ⟨N + 1, k, none⟩ (.int .u64 v1)).setCell ⟨N + 2, k, none⟩ (.int .i64 v2)).setCell ⟨N + 3, k, none⟩ (.int .u64 v3)) N n
      (fun i => if i = k then v0 else f0 i) (fun i => if i = k then v1 else f1 i) (fun i => if i = k then v2 else f2 i) (fun i => if i = k then v3 else f3 i) := by
  obtain ⟨h0, h1, h2, h3⟩ := h
  refine ⟨?_, ?_, ?_, ?_⟩
  · refine ((((h0.set k _).setOther (by simp) _).setOther (by simp) _).setOther (by simp) _).congr fun i _ => ?_
    simp only []; split <;> rfl
  · refine ((((h1.setOther (by simp) _).set k _).setOther (by simp) _).setOther (by simp) _).congr fun i _ => ?_
    simp only []; split <;> rfl
  · refine ((((h2.setOther (by simp) _).setOther (by simp) _).set k _).setOther (by simp) _).congr fun i _ => ?_
    simp only []; split <;> rfl
  · refine ((((h3.setOther (by simp) _).setOther (by simp) _).setOther (by simp) _).set k _).congr fun i _ => ?_
    simp only []; split <;> rfl

theorem rows4_congr {w : World} {N n : Nat} {f0 f1 f2 f3 g0 g1 g2 g3 : Nat → Int} (h : Rows4 w N n f0 f1 f2 f3) (e : ∀ i, i < n → f0 i = g0 i ∧ f1 i = g1 i ∧ f2 i = g2 i ∧ f3 i = g3 i) : Rows4 w N n g0 g1 g2 g3 := by
  obtain ⟨h0, h1, h2, h3⟩ := h
  exact ⟨h0.congr fun i hi => by rw [(e i hi).1], h1.congr fun i hi => by rw [(e i hi).2.1], h2.congr fun i hi => by rw [(e i hi).2.2.1], h3.congr fun i hi => by rw [(e i hi).2.2.2]⟩

theorem log_below {w w' : World} {L B size : Nat} {head n : Int} {E : Nat → Nat → Int} {H : Nat} (h : IsLog w L B size head n E) (hb : Below H w w') (hL : L < H) (hB : B < H) : IsLog w' L B size head n E :=
  ⟨row_same h.1 hb hL, row_same h.2 hb hB⟩

set_option maxRecDepth 100000 in
set_option maxHeartbeats 1000000 in
theorem unpack18 (L B size : Nat) (head n : Int) (E : Nat → Nat → Int) (w : World) (hs : size ≤ 65536) (hl : IsLog w L B size head n E) :
    Calls Try.prog 18 #[.pointer (some ⟨L, 0, none⟩)] w fun e w' => 
      e = .returned (.tuple #[.slice (some ⟨w.heap.size, 0, none⟩) size size, .slice (some ⟨w.heap.size + 1, 0, none⟩) size size, .slice (some ⟨w.heap.size + 2, 0, none⟩) size size, .slice (some ⟨w.heap.size + 3, 0, none⟩) size size, .int .i64 head, .int .i64 n]) ∧
      Below w.heap.size w w' ∧ w'.heap.size = w.heap.size + 4 ∧ Rows4 w' w.heap.size size (fun p => E p 0) (fun p => E p 1) (fun p => E p 2) (fun p => E p 3) := by
  have hm1 := run_make22 size hs
  have hm2 := run_make31 size hs
  have hLl := hl.1.lt
  have hBl := hl.2.lt
  have c0 : w.cell? ⟨L, 0, none⟩ = some (.slice (some ⟨B, 0, none⟩) size size) := hl.1.cell (i := 0) (by omega)
  have c1 : (w.alloc (.cells (madeCells #[.int .u64 0] size) 23)).cell? ⟨L, 0, none⟩ = some (.slice (some ⟨B, 0, none⟩) size size) := (hl.1.alloc _).cell (i := 0) (by omega)
  have c2 : ((w.alloc (.cells (madeCells #[.int .u64 0] size) 23)).alloc (.cells (madeCells #[.int .u64 0] size) 23)).cell? ⟨L, 0, none⟩ = some (.slice (some ⟨B, 0, none⟩) size size) := ((hl.1.alloc _).alloc _).cell (i := 0) (by omega)
  have c3 : (((w.alloc (.cells (madeCells #[.int .u64 0] size) 23)).alloc (.cells (madeCells #[.int .u64 0] size) 23)).alloc (.cells (madeCells #[.int .i64 0] size) 3)).cell? ⟨L, 0, none⟩ = some (.slice (some ⟨B, 0, none⟩) size size) := (((hl.1.alloc _).alloc _).alloc _).cell (i := 0) (by omega)
  have M := made4 w size
  have hbel := ((((Below.refl w.heap.size w).alloc (Nat.le_refl _) (.cells (madeCells #[.int .u64 0] size) 23)).alloc (by simp) (.cells (madeCells #[.int .u64 0] size) 23)).alloc (by simp; omega) (.cells (madeCells #[.int .i64 0] size) 3)).alloc (by simp; omega) (.cells (madeCells #[.int .u64 0] size) 23)
  have hsz : ((((w.alloc (.cells (madeCells #[.int .u64 0] size) 23)).alloc (.cells (madeCells #[.int .u64 0] size) 23)).alloc (.cells (madeCells #[.int .i64 0] size) 3)).alloc (.cells (madeCells #[.int .u64 0] size) 23)).heap.size = w.heap.size + 4 := by simp
  go_enter Try.func18, Try.ntmps18
  go_upto_region 5 with (fail)
  generalize ((((w.alloc (.cells (madeCells #[.int .u64 0] size) 23)).alloc (.cells (madeCells #[.int .u64 0] size) 23)).alloc (.cells (madeCells #[.int .i64 0] size) 3)).alloc (.cells (madeCells #[.int .u64 0] size) 23)) = w1 at *
  clear c0 c1 c2 c3 hm1 hm2
  have hl1 := log_below hl hbel hLl hBl
  have c0 : w1.cell? ⟨L, 0, none⟩ = some (.slice (some ⟨B, 0, none⟩) size size) := hl1.1.cell (i := 0) (by omega)
  go_wp2
  clear c0
  go_loopw [38] (fun t wr => ∃ k : Nat, k ≤ size ∧ t = .int .i64 k ∧ Below w.heap.size w wr ∧ wr.heap.size = w.heap.size + 4 ∧
      Rows4 wr w.heap.size size (fun p => if p < k then E p 0 else 0) (fun p => if p < k then E p 1 else 0) (fun p => if p < k then E p 2 else 0) (fun p => if p < k then E p 3 else 0)) (fun t _ => size - (intOf t).toNat)
  case atStart => exact ⟨0, Nat.zero_le _, rfl, hbel, hsz, by simpa using M⟩
  case round =>
    obtain ⟨k, hk, rfl, hbr, hszr, hrr⟩ := hrel
    have hlr := log_below hl hbr hLl hBl
    clear hl1 M hbel hsz
    by_cases hlt : k < size
    · have c0 : wr.cell? ⟨L, 0, none⟩ = some (.slice (some ⟨B, 0, none⟩) size size) := hlr.1.cell (i := 0) (by omega)
      have s0 := row_cell0 hlr.2 _ hlt
      have s1 := row_cell1 hlr.2 _ hlt
      have s2 := row_cell2 hlr.2 _ hlt
      have s3 := row_cell3 hlr.2 _ hlt
      have t0 := hrr.1.cell hlt
      have t1 := hrr.2.1.cell hlt
      have t2 := hrr.2.2.1.cell hlt
      have t3 := hrr.2.2.2.cell hlt
      have z0 := hrr.1.frozen k
      have z1 := hrr.2.1.frozen k
      have z2 := hrr.2.2.1.frozen k
      have z3 := hrr.2.2.2.frozen k
      have nL0 : L ≠ w.heap.size := by omega
      have nL1 : L ≠ w.heap.size + 1 := by omega
      have nL2 : L ≠ w.heap.size + 2 := by omega
      have nB0 : B ≠ w.heap.size := by omega
      have nB1 : B ≠ w.heap.size + 1 := by omega
      have nB2 : B ≠ w.heap.size + 2 := by omega
      go_wp2
      go_roundw
      case rel =>
        refine ⟨k + 1, by omega, by go_num, (((hbr.setCell (by simp) _).setCell (by simp) _).setCell (by simp; omega) _).setCell (by simp; omega) _, by simpa using hszr, ?_⟩
        refine rows4_congr (rows4_put hrr k (E k 0) (E k 1) (E k 2) (E k 3)) fun i _ => ?_
        by_cases e : i = k
        · subst e; simp
        · have : i < k + 1 ↔ i < k := by omega
          simp [e, this]
      case measure => simp [intOf]; omega
    · have c1 : wr.cell? ⟨L, 1, none⟩ = some (.int .i64 head) := hlr.1.cell (i := 1) (by omega)
      have c2 : wr.cell? ⟨L, 2, none⟩ = some (.int .i64 n) := hlr.1.cell (i := 2) (by omega)
      go_wp2
      go_quiet (fail)
      go_wp2
      refine bodyPost_ret (v := .tuple #[.slice (some ⟨w.heap.size, 0, none⟩) size size, .slice (some ⟨w.heap.size + 1, 0, none⟩) size size, .slice (some ⟨w.heap.size + 2, 0, none⟩) size size, .slice (some ⟨w.heap.size + 3, 0, none⟩) size size, .int .i64 head, .int .i64 n]) (by simp [results, Try.results18, go_sem]) rfl ⟨rfl, below_drewN hbr _, hszr, ?_⟩
      have hall : ∀ i, i < size → i < k := fun i hi => by omega
      obtain ⟨r0, r1, r2, r3⟩ := rows4_congr hrr (g0 := fun p => E p 0) (g1 := fun p => E p 1) (g2 := fun p => E p 2) (g3 := fun p => E p 3) (fun i hi => by simp [hall i hi])
      exact ⟨row_drewN r0 _, row_drewN r1 _, row_drewN r2 _, row_drewN r3 _⟩

end Go.Proofs.Qxb6601511a
