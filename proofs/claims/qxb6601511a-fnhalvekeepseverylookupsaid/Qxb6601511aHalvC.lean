/-
  The contract of (*indexDir).halve.
-/
import Derived.Test.Qxb6601511aHalvB
import Derived.Deep.Light
namespace Go.Proofs.Qxb6601511a
open Go.RowKit

/-- all old blocks but D are as they were -/
structure Apart (w w' : World) (D : Nat) : Prop where
  os : w'.os = w.os
  tape : w'.tape = w.tape
  output : w'.output = w.output
  size : w.heap.size ≤ w'.heap.size
  block : ∀ k, k < w.heap.size → k ≠ D → w'.heap[k]? = w.heap[k]?

theorem Apart.refl (w : World) (D : Nat) : Apart w w D := ⟨rfl, rfl, rfl, Nat.le_refl _, fun _ _ _ => rfl⟩
theorem Apart.drew {w w' : World} {D : Nat} (h : Apart w w' D) : Apart w w'.drew D := ⟨h.os, h.tape, h.output, h.size, h.block⟩
theorem Apart.drewN {w w' : World} {D : Nat} (h : Apart w w' D) (n : Nat) : Apart w (w'.drewN n) D := ⟨h.os, h.tape, h.output, h.size, h.block⟩
theorem Apart.alloc {w w' : World} {D : Nat} (h : Apart w w' D) (o : Obj) : Apart w (w'.alloc o) D :=
  ⟨h.os, h.tape, h.output, by simp; exact Nat.le_succ_of_le h.size, fun k hk hd => by rw [Below.heap_alloc _ _ _ (Nat.lt_of_lt_of_le hk h.size)]; exact h.block k hk hd⟩
theorem Apart.setCell {w w' : World} {D : Nat} (h : Apart w w' D) {a : Addr} (ha : a.block = D ∨ w.heap.size ≤ a.block) (v : Value) : Apart w (w'.setCell a v) D :=
  ⟨h.os, h.tape, h.output, by simpa using h.size, fun k hk hd => by rw [Below.heap_setCell _ _ _ _ (by omega)]; exact h.block k hk hd⟩
theorem Apart.row {w w' : World} {D b n : Nat} {t : TypeId} {f : Nat → Value} (h : Apart w w' D) (r : w.rowIs b t n f) (hd : b ≠ D) : w'.rowIs b t n f := r.of_block (h.block b r.lt hd)
theorem Apart.below {w w' : World} {D : Nat} (h : Apart w w' D) (hD : D ≤ w.heap.size) : Below D w w' := ⟨h.os, h.tape, h.output, h.size, fun k hk => h.block k (by omega) (by omega)⟩

/-- how many of the first n say yes -/
def cnt (f : Nat → Bool) : Nat → Nat
  | 0 => 0
  | n + 1 => cnt f n + if f n then 1 else 0
theorem cnt_le (f : Nat → Bool) (n : Nat) : cnt f n ≤ n := by
  induction n with
  | zero => exact Nat.le_refl _
  | succ n ih => unfold cnt; split <;> omega
theorem cnt_pairs (f g : Nat → Bool) (h : ∀ e, f (2 * e) = g e ∧ f (2 * e + 1) = g e) (n : Nat) : cnt f (2 * n) = 2 * cnt g n := by
  induction n with
  | zero => rfl
  | succ n ih =>
    rw [show 2 * (n + 1) = 2 * n + 1 + 1 by omega]
    show (cnt f (2 * n) + if f (2 * n) then 1 else 0) + (if f (2 * n + 1) then 1 else 0) = 2 * (cnt g n + if g n then 1 else 0)
    rw [ih, (h n).1, (h n).2]
    split <;> omega
theorem cnt_succ (f : Nat → Bool) (n : Nat) : cnt f (n + 1) = cnt f n + if f n then 1 else 0 := rfl

theorem hrow_ne {w : World} {b b' : Nat} {t t' : TypeId} {n n' : Nat} {f f' : Nat → Value} (h : w.rowIs b t n f) (h' : w.rowIs b' t' n' f') (ht : t ≠ t') : b ≠ b' := by
  rintro rfl
  obtain ⟨c, hb, _⟩ := h
  obtain ⟨c', hb', _⟩ := h'
  rw [hb] at hb'; simp at hb'; exact ht hb'.2

set_option maxRecDepth 100000 in
set_option maxHeartbeats 1000000 in
theorem halve33 (D M h sc : Nat) (shift depth deepest upEntry x : Int) (ba ua : Option Addr) (bl bc : Nat) (P : Nat → Nat) (dep cn : Nat → Int) (w : World) (hh : h ≤ 4096)
    (hd1 : 1 ≤ depth) (hd2 : depth ≤ 12) (hx : IntKind.u64.wrap (shift + (depth - 1)) = x)
    (RD : w.rowIs D 73 7 (dirf shift depth deepest (.slice (some ⟨M, 0, none⟩) (2 * h) sc) (.slice ba bl bc) (.pointer ua) upEntry))
    (RM : w.rowIs M 47 (2 * h) (fun j => .pointer (some ⟨P j, 0, none⟩)))
    (RP : ∀ j, j < 2 * h → w.rowIs (P j) 70 4 (segf (dep j) (cn j))) :
    Calls Try.prog 33 #[.pointer (some ⟨D, 0, none⟩)] w fun e w' => e = .returned (.tuple #[]) ∧ Apart w w' D ∧
      w'.rowIs D 73 7 (dirf shift (depth - 1) (cnt (fun e => dep (2 * e) == x) h) (.slice (some ⟨w.heap.size, 0, none⟩) h h) (.slice none 0 0) (.pointer ua) upEntry) ∧
      w'.rowIs w.heap.size 47 h (fun e => .pointer (some ⟨P (2 * e), 0, none⟩)) := by
  have hm := run_make46 h (by omega)
  have hDM := hrow_ne RD RM (by decide)
  have c3 : w.cell? ⟨D, 3, none⟩ = some (.slice (some ⟨M, 0, none⟩) (2 * h) sc) := RD.cell (i := 3) (by omega)
  have ediv : ((2 * h : Nat) : Int) / 2 = (h : Int) := by omega
  have R1 := RD.alloc (.cells (madeCells #[.pointer none] h) 47)
  have M1 := World.rowIs_made w (.pointer none) h 47
  have A1 := (Apart.refl w D).alloc (.cells (madeCells #[.pointer none] h) 47)
  have hz : (w.alloc (.cells (madeCells #[.pointer none] h) 47)).heap.size = w.heap.size + 1 := by simp
  go_enter Try.func33, Try.ntmps33
  go_upto_region 1 with (fail)
  generalize (w.alloc (.cells (madeCells #[.pointer none] h) 47)) = w1 at *
  clear hm c3 ediv
  have c1 : w1.cell? ⟨D, 1, none⟩ = some (.int .u64 depth) := R1.cell (i := 1) (by omega)
  have c2 : w1.cell? ⟨D, 2, none⟩ = some (.int .i64 deepest) := R1.cell (i := 2) (by omega)
  have f1 := R1.frozen 1
  have f2 := R1.frozen 2
  have hDQ : w.heap.size ≠ D := Nat.ne_of_gt RD.lt
  have R2 := dirf_set2 (dirf_set1 R1 (depth - 1)) 0
  have M2 := (M1.setOther (a := ⟨D, 1, none⟩) hDQ (.int .u64 (depth - 1))).setOther (a := ⟨D, 2, none⟩) hDQ (.int .i64 0)
  have A2 := (A1.setCell (a := ⟨D, 1, none⟩) (.inl rfl) (.int .u64 (depth - 1))).setCell (a := ⟨D, 2, none⟩) (.inl rfl) (.int .i64 0)
  have hz2 : ((w1.setCell ⟨D, 1, none⟩ (.int .u64 (depth - 1))).setCell ⟨D, 2, none⟩ (.int .i64 0)).heap.size = w.heap.size + 1 := by simpa using hz
  go_upto_region 3 with (fail)
  generalize ((w1.setCell ⟨D, 1, none⟩ (.int .u64 (depth - 1))).setCell ⟨D, 2, none⟩ (.int .i64 0)) = w2 at *
  clear c1 c2 f1 f2 R1 M1 A1 hz
  go_wp2
  go_loopw [23] (fun t wr => ∃ e : Nat, e ≤ h ∧ t = .int .i64 e ∧ Apart w wr D ∧ wr.heap.size = w.heap.size + 1 ∧
      wr.rowIs D 73 7 (dirf shift (depth - 1) (cnt (fun e => dep (2 * e) == x) e) (.slice (some ⟨M, 0, none⟩) (2 * h) sc) (.slice ba bl bc) (.pointer ua) upEntry) ∧
      wr.rowIs w.heap.size 47 h (fun i => if i < e then .pointer (some ⟨P (2 * i), 0, none⟩) else .pointer none)) (fun t _ => h - (intOf t).toNat)
  case atStart => exact ⟨0, Nat.zero_le _, rfl, A2, hz2, R2, by simpa using M2⟩
  case round =>
    obtain ⟨e, he, rfl, Ar, hzr, Rr, Mr⟩ := hrel
    by_cases hlt : e < h
    · have N1 := Ar.row RM (Ne.symm hDM)
      have hPD := hrow_ne RD (RP (2 * e) (by omega)) (by decide)
      have S1 := Ar.row (RP (2 * e) (by omega)) (Ne.symm hPD)
      have hPQ : P (2 * e) ≠ w.heap.size := Nat.ne_of_lt (RP (2 * e) (by omega)).lt
      have d0 : wr.cell? ⟨D, 0, none⟩ = some (.int .u64 shift) := Rr.cell (i := 0) (by omega)
      have d1 : wr.cell? ⟨D, 1, none⟩ = some (.int .u64 (depth - 1)) := Rr.cell (i := 1) (by omega)
      have d2 : wr.cell? ⟨D, 2, none⟩ = some (.int .i64 (cnt (fun e => dep (2 * e) == x) e)) := Rr.cell (i := 2) (by omega)
      have d3 : wr.cell? ⟨D, 3, none⟩ = some (.slice (some ⟨M, 0, none⟩) (2 * h) sc) := Rr.cell (i := 3) (by omega)
      have n1 := N1.cell (i := 2 * e) (by omega)
      have q1 := Mr.cell (i := e) hlt
      have f1 := Mr.frozen e
      have f2 := Rr.frozen 2
      have s1 : wr.cell? ⟨P (2 * e), 0, none⟩ = some (.int .u64 (dep (2 * e))) := S1.cell (i := 0) (by omega)
      have hcl := cnt_le (fun e => dep (2 * e) == x) e
      have CS : Hid (cnt (fun e => dep (2 * e) == x) (e + 1) = cnt (fun e => dep (2 * e) == x) e + if (dep (2 * e) == x) = true then 1 else 0) := cnt_succ _ _
      generalize cnt (fun e => dep (2 * e) == x) e = C at *
      clear N1 S1
      go_wp2
      go_quiet (fail)
      have MQ : ∀ i, i < h → (if i = e then Value.pointer (some ⟨P (2 * e), 0, none⟩) else if i < e then .pointer (some ⟨P (2 * i), 0, none⟩) else .pointer none) = (if i < e + 1 then Value.pointer (some ⟨P (2 * i), 0, none⟩) else .pointer none) := fun i _ => by
        by_cases c : i = e
        · subst c; simp
        · have : i < e + 1 ↔ i < e := by omega
          simp [c, this]
      have hQD : D ≠ w.heap.size := Ne.symm hDQ
      cases hb : dep (2 * e) == x
      · rw [hb] at CS
        go_wp2
        go_roundw
        case rel =>
          have CE := CS.out
          refine ⟨e + 1, by omega, by go_num, (Ar.setCell (.inr (Nat.le_refl _)) _).drewN _, by simpa [World.drewN] using hzr, ?_, ?_⟩
          · have r := Rr.setOther (a := ⟨w.heap.size, e, none⟩) hQD (.pointer (some ⟨P (2 * e), 0, none⟩))
            simp at CE
            rw [CE]
            exact r
          · exact (Mr.set e _).congr MQ
        case measure => simp [intOf]; omega
      · rw [hb] at CS
        go_wp2
        go_roundw
        case rel =>
          have CE := CS.out
          refine ⟨e + 1, by omega, by go_num, ((Ar.setCell (.inr (Nat.le_refl _)) _).drewN _).setCell (.inl rfl) _, by simpa [World.drewN] using hzr, ?_, ?_⟩
          · have r := Rr.setOther (a := ⟨w.heap.size, e, none⟩) hQD (.pointer (some ⟨P (2 * e), 0, none⟩))
            simp at CE
            rw [CE]
            exact dirf_set2 (w := (wr.setCell ⟨w.heap.size, e, none⟩ (.pointer (some ⟨P (2 * e), 0, none⟩))).drewN _) r _
          · exact World.rowIs.setOther (w := (wr.setCell ⟨w.heap.size, e, none⟩ (.pointer (some ⟨P (2 * e), 0, none⟩))).drewN _) (a := ⟨D, 2, none⟩) ((Mr.set e _).congr MQ) hDQ _
        case measure => simp [intOf]; omega
    · have hef : e = h := by omega
      subst hef
      have d3 : wr.cell? ⟨D, 3, none⟩ = some (.slice (some ⟨M, 0, none⟩) (2 * e) sc) := Rr.cell (i := 3) (by omega)
      have d4 : wr.cell? ⟨D, 4, none⟩ = some (.slice ba bl bc) := Rr.cell (i := 4) (by omega)
      have f3 := Rr.frozen 3
      have f4 := Rr.frozen 4
      go_wp2
      go_end0
      refine ⟨rfl, (Ar.setCell (.inl rfl) _).setCell (.inl rfl) _, dirf_set4 (dirf_set3 Rr _) _, ?_⟩
      exact ((Mr.congr fun i hi => by simp [hi]).setOther (a := ⟨D, 3, none⟩) hDQ _).setOther (a := ⟨D, 4, none⟩) hDQ _

set_option maxHeartbeats 400000 in
theorem zzhalve28 (D M h sc : Nat) (shift depth deepest upEntry x : Int) (ba ua : Option Addr) (bl bc : Nat) (P : Nat → Nat) (dep cn : Nat → Int) (w : World) (hh : h ≤ 4096)
    (hd1 : 1 ≤ depth) (hd2 : depth ≤ 12) (hx : IntKind.u64.wrap (shift + (depth - 1)) = x)
    (RD : w.rowIs D 73 7 (dirf shift depth deepest (.slice (some ⟨M, 0, none⟩) (2 * h) sc) (.slice ba bl bc) (.pointer ua) upEntry))
    (RM : w.rowIs M 47 (2 * h) (fun j => .pointer (some ⟨P j, 0, none⟩)))
    (RP : ∀ j, j < 2 * h → w.rowIs (P j) 70 4 (segf (dep j) (cn j))) :
    Calls Try.prog 28 #[.pointer (some ⟨D, 0, none⟩)] w fun e w' => e = .returned (.tuple #[]) ∧ Apart w w' D ∧
      w'.rowIs D 73 7 (dirf shift (depth - 1) (cnt (fun e => dep (2 * e) == x) h) (.slice (some ⟨w.heap.size, 0, none⟩) h h) (.slice none 0 0) (.pointer ua) upEntry) ∧
      w'.rowIs w.heap.size 47 h (fun e => .pointer (some ⟨P (2 * e), 0, none⟩)) := by
  have C := halve33 D M h sc shift depth deepest upEntry x ba ua bl bc P dep cn w hh hd1 hd2 hx RD RM RP
  clear hx RD RM RP
  go_enter Try.func28, Try.ntmps28
  go_wp2_with fail
  refine C.mono ?_
  clear C
  rintro e w1 ⟨rfl, hr⟩
  go_wp2
  go_end0
  exact ⟨rfl, hr⟩

end Go.Proofs.Qxb6601511a
