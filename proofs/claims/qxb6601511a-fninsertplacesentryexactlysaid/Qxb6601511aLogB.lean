/-
  The contract of (*eventLog).insert and of ZZInsert.
-/
import Derived.Test.Qxb6601511aLogA
import Derived.Test.Qxb6601511aLogP
import Derived.Deep.CutRange
import Derived.Deep.DeepCutAuto
import Derived.Deep.RegionWith
namespace Go.Proofs.Qxb6601511a
open Go.RowKit

theorem ent_eta (e : Nat → Int) (c : Nat) (h : c < 4) : ent (e 0) (e 1) (e 2) (e 3) c = e c := by
  unfold ent
  have : c = 0 ∨ c = 1 ∨ c = 2 ∨ c = 3 := by omega
  rcases this with h | h | h | h <;> subst h <;> rfl

theorem row_ne {w : World} {b b' : Nat} {t t' : TypeId} {n n' : Nat} {f f' : Nat → Value} (h : w.rowIs b t n f) (h' : w.rowIs b' t' n' f') (ht : t ≠ t') : b ≠ b' := by
  rintro rfl
  obtain ⟨c, hb, _⟩ := h
  obtain ⟨c', hb', _⟩ := h'
  rw [hb] at hb'; simp at hb'; exact ht hb'.2

theorem row_drewN {w : World} {b : Nat} {t : TypeId} {n : Nat} {f : Nat → Value} (h : w.rowIs b t n f) (k : Nat) : (w.drewN k).rowIs b t n f := h
theorem log_drewN {w : World} {L B size : Nat} {head n : Int} {E : Nat → Nat → Int} (h : IsLog w L B size head n E) (k : Nat) : IsLog (w.drewN k) L B size head n E := ⟨row_drewN h.1 k, row_drewN h.2 k⟩

set_option maxRecDepth 100000 in
set_option maxHeartbeats 1000000 in
theorem insert31 (L B size head n i H : Nat) (hd : Int) (limit : Int) (v0 v1 v2 v3 : Int) (E : Nat → Nat → Int) (w : World) (hs : size ≤ 16384) (hn : n ≤ size) (hhd : Hid (0 < size → hd = head ∧ head < size)) (hi : i ≤ n) (hL : H ≤ L) (hB : H ≤ B)
    (hl : IsLog w L B size hd n E) :
    Calls Try.prog 31 #[.pointer (some ⟨L, 0, none⟩), .int .i64 i, .agg #[.int .u64 v0, .int .u64 v1, .int .i64 v2, .int .u64 v3], .int .i64 limit] w fun e w' => e = .returned (.tuple #[]) ∧ Below H w w' ∧
      ∃ B1, H ≤ B1 ∧ IsLog w' L B1 (size1 size n limit) (head1 size head n) ((n + 1 : Nat) : Int) (entsIns (size1 size n limit) (head1 size head n) n i (ents1 size head n E) (ent v0 v1 v2 v3)) := by
  have hX := World.rowIs_alloc w #[.int .u64 v0, .int .u64 v1, .int .i64 v2, .int .u64 v3] 61 (rowf fun _ => ent v0 v1 v2 v3) (fun i hi => by
    have : i = 0 ∨ i = 1 ∨ i = 2 ∨ i = 3 := by simp at hi; omega
    rcases this with h | h | h | h <;> subst h <;> rfl)
  have hl1 : IsLog (w.alloc (.cells #[.int .u64 v0, .int .u64 v1, .int .i64 v2, .int .u64 v3] 61)) L B size hd n E := ⟨hl.1.alloc _, hl.2.alloc _⟩
  have hHw : H ≤ w.heap.size := Nat.le_of_lt (Nat.lt_of_le_of_lt hL hl.1.lt)
  have hbel := (Below.refl H w).alloc hHw (.cells #[.int .u64 v0, .int .u64 v1, .int .i64 v2, .int .u64 v3] 61)
  have hsz : (w.alloc (.cells #[.int .u64 v0, .int .u64 v1, .int .i64 v2, .int .u64 v3] 61)).heap.size = w.heap.size + 1 := by simp
  have hBX : B ≠ w.heap.size := Nat.ne_of_lt hl.2.lt
  go_enter Try.func31, Try.ntmps31
  go_wp2
  generalize (w.alloc (.cells #[.int .u64 v0, .int .u64 v1, .int .i64 v2, .int .u64 v3] 61)) = w1 at *
  have c0 : w1.cell? ⟨L, 0, none⟩ = some (.slice (some ⟨B, 0, none⟩) size size) := hl1.1.cell (i := 0) (by omega)
  have c1 : w1.cell? ⟨L, 1, none⟩ = some (.int .i64 hd) := hl1.1.cell (i := 1) (by omega)
  have c2 : w1.cell? ⟨L, 2, none⟩ = some (.int .i64 n) := hl1.1.cell (i := 2) (by omega)
  go_quiet (fail)
  go_upto_if 21 with (fail)
  go_cut [] (fun w2 => ∃ B1, H ≤ B1 ∧ B1 ≠ w.heap.size ∧ Below H w w2 ∧ w2.rowIs w.heap.size 61 4 (rowf fun _ => ent v0 v1 v2 v3) ∧ 
     IsLog w2 L B1 (size1 size n limit) (head1 size head n) (n : Int) (ents1 size head n E))
  case first =>
    by_cases hf : n = size
    · subst hf
      have hb : ((n : Int) == (n : Int)) = true := by simp
      go_upto_if 34 with (fail)
      go_cut [8] (fun s8 wc => s8 = .int .i64 (newSize n n limit : Nat) ∧ wc = w1.drewN nq)
      case first =>
        go_wp2
        all_goals
          go_meet
          case rel =>
            refine ⟨?_, rfl⟩
            apply congrArg
            unfold newSize
            (repeat' split) <;> omega
      case rest =>
        obtain ⟨rfl, rfl⟩ := hcut
        have hgt := newSize_gt n limit
        have hle := newSize_le n limit hs
        have E1 : Hid (size1 n n limit = newSize n n limit ∧ head1 n head n = 0 ∧ ents1 n head n E = fun p => if p < n then E (pos n head p) else fun _ => 0) := ⟨by simp [size1], by simp [head1], by simp [ents1]⟩
        generalize newSize n n limit = S at *
        have hmk := run_make61 S (by omega)
        go_upto_region 6 with (fail)
        have M := made61 (w1.drewN nq) S
        have hX3 := (row_drewN hX nq).alloc (.cells (madeCells #[.int .u64 0, .int .u64 0, .int .i64 0, .int .u64 0] (S * 4)) 61)
        have hl3 : IsLog ((w1.drewN nq).alloc (.cells (madeCells #[.int .u64 0, .int .u64 0, .int .i64 0, .int .u64 0] (S * 4)) 61)) L B n hd n E := ⟨(log_drewN hl1 nq).1.alloc _, (log_drewN hl1 nq).2.alloc _⟩
        have hbel3 := (below_drewN hbel nq).alloc (show H ≤ (w1.drewN nq).heap.size by show H ≤ w1.heap.size; omega) (.cells (madeCells #[.int .u64 0, .int .u64 0, .int .i64 0, .int .u64 0] (S * 4)) 61)
        have hBN : B ≠ w.heap.size + 1 := by rw [← hsz]; exact Nat.ne_of_lt hl1.2.lt
        have hLN : L ≠ w.heap.size + 1 := by rw [← hsz]; exact Nat.ne_of_lt hl1.1.lt
        rw [show (w1.drewN nq).heap.size = w.heap.size + 1 from hsz] at M
        clear hX hl1 hbel c0 c1 c2 hsz hmk hl
        generalize ((w1.drewN nq).alloc (.cells (madeCells #[.int .u64 0, .int .u64 0, .int .i64 0, .int .u64 0] (S * 4)) 61)) = w3 at *
        have d2 : w3.cell? ⟨L, 2, none⟩ = some (.int .i64 n) := hl3.1.cell (i := 2) (by omega)
        go_wp2
        clear d2
        go_loopw [44] (fun t wr => ∃ k : Nat, k ≤ n ∧ t = .int .i64 k ∧ Below H w wr ∧ wr.rowIs w.heap.size 61 4 (rowf fun _ => ent v0 v1 v2 v3) ∧ IsLog wr L B n hd n E ∧
            wr.rowIs (w.heap.size + 1) 61 (S * 4) (rowf fun p => if p < k then E (pos n head p) else fun _ => 0)) (fun t _ => n - (intOf t).toNat)
        case atStart => exact ⟨0, Nat.zero_le _, rfl, hbel3, hX3, hl3, by simpa using M⟩
        case round =>
          obtain ⟨k, hk, rfl, hbr, hXr, hlr, hMr⟩ := hrel
          by_cases hlt : k < n
          · obtain ⟨hq, hhn⟩ := hhd.out (by omega)
            subst hq
            have p1 := pos_lt hhn hlt
            have q1 := pos_spec n head k
            have s0 := row_cell0 hlr.2 _ p1
            have s1 := row_cell1 hlr.2 _ p1
            have s2 := row_cell2 hlr.2 _ p1
            have s3 := row_cell3 hlr.2 _ p1
            have hkS : k < S := by omega
            have t0 := row_cell0 hMr _ hkS
            have t1 := row_cell1 hMr _ hkS
            have t2 := row_cell2 hMr _ hkS
            have t3 := row_cell3 hMr _ hkS
            have z0 := hMr.frozen (k * 4)
            have z1 := hMr.frozen (k * 4 + 1)
            have z2 := hMr.frozen (k * 4 + 2)
            have z3 := hMr.frozen (k * 4 + 3)
            go_wp2_with fail
            have C := at32 L B n (pos n head k) head n k E _ (by omega) (by omega) (by omega) p1 q1 hlr
            refine C.mono ?_
            clear C
            rintro e w2 ⟨rfl, rfl⟩
            have R := row_put hMr k (E (pos n head k) 0) (E (pos n head k) 1) (E (pos n head k) 2) (E (pos n head k) 3)
            go_wp2
            go_roundw
            case rel =>
              have hHN : H ≤ w.heap.size + 1 := by omega
              refine ⟨k + 1, by omega, by go_num, (((hbr.setCell hHN _).setCell hHN _).setCell hHN _).setCell hHN _, ?_, ?_, ?_⟩
              · have hne : w.heap.size ≠ w.heap.size + 1 := by omega
                exact (((hXr.setOther hne _).setOther hne _).setOther hne _).setOther hne _
              · exact ⟨(((hlr.1.setOther hLN _).setOther hLN _).setOther hLN _).setOther hLN _, (((hlr.2.setOther hBN _).setOther hBN _).setOther hBN _).setOther hBN _⟩
              · refine R.congr fun o ho => ?_
                simp only [rowf]
                by_cases e : o / 4 = k
                · rw [if_pos e, if_pos (by omega), ent_eta _ _ (by omega), e]
                · rw [if_neg e]
                  by_cases e2 : o / 4 < k
                  · rw [if_pos e2, if_pos (by omega)]
                  · rw [if_neg e2, if_neg (by omega)]
            case measure => simp [intOf]; omega
          · have hkn : k = n := by omega
            subst hkn
            have d0 : wr.cell? ⟨L, 0, none⟩ = some (.slice (some ⟨B, 0, none⟩) k k) := hlr.1.cell (i := 0) (by omega)
            have d1 : wr.cell? ⟨L, 1, none⟩ = some (.int .i64 hd) := hlr.1.cell (i := 1) (by omega)
            have f0 := hlr.1.frozen 0
            have f1 := hlr.1.frozen 1
            go_wp2
            go_meet
            case rel =>
              rw [E1.out.1, E1.out.2.1, E1.out.2.2]
              refine ⟨w.heap.size + 1, by omega, by omega, (hbr.setCell hL _).setCell hL _, ?_, ?_, ?_⟩
              · have hne := row_ne hlr.1 hXr (by decide)
                exact (hXr.setOther (a := ⟨L, 0, none⟩) (Ne.symm hne) _).setOther (a := ⟨L, 1, none⟩) (Ne.symm hne) _
              · refine ((hlr.1.set 0 _).set 1 _).congr fun o ho => ?_
                have : o = 0 ∨ o = 1 ∨ o = 2 := by omega
                rcases this with h | h | h <;> subst h <;> simp [logf]
              · exact (hMr.setOther (a := ⟨L, 0, none⟩) (Ne.symm hLN) _).setOther (a := ⟨L, 1, none⟩) (Ne.symm hLN) _
    · have hb : ((n : Int) == (size : Int)) = false := by rw [beq_eq_false_iff_ne]; omega
      have e1 : size1 size n limit = size := by simp [size1, hf]
      have e2 : head1 size head n = head := by simp [head1, hf]
      have e3 : ents1 size head n E = E := by simp [ents1, hf]
      have E1 : Hid (size1 size n limit = size ∧ head1 size head n = head ∧ ents1 size head n E = E) := ⟨e1, e2, e3⟩
      clear e1 e2 e3
      go_wp2
      go_meet
      case rel =>
        rw [E1.out.1, E1.out.2.1, E1.out.2.2]
        have hl1' : IsLog w1 L B size head n E := by rw [← (hhd.out (by omega)).1]; exact hl1
        exact ⟨B, hB, hBX, below_drewN hbel _, row_drewN hX _, log_drewN hl1' _⟩
  case rest => 
    obtain ⟨B1, hHB1, hBX1, hbel2, hX2, hl2⟩ := hcut
    have hn1 : n < size1 size n limit := by unfold size1; split; (rename_i e; rw [← e]; exact newSize_gt n limit); omega
    have hs1 : size1 size n limit ≤ 32768 := by unfold size1; split; (rename_i e; rw [← e]; exact newSize_le n limit (by omega)); omega
    have hh1 : head1 size head n < size1 size n limit := by
      unfold head1; split; omega; unfold size1; rw [if_neg (by assumption)]; exact (hhd.out (by omega)).2
    clear hX hl1 hl hbel hsz c0 c1 c2 hBX
    generalize eS : size1 size n limit = S at *
    generalize eh : head1 size head n = h at *
    generalize eF : ents1 size head n E = F at *
    have EE : Hid (size1 size n limit = S ∧ head1 size head n = h ∧ ents1 size head n E = F) := ⟨eS, eh, eF⟩
    clear eS eh eF
    have d2 : wc.cell? ⟨L, 2, none⟩ = some (.int .i64 n) := hl2.1.cell (i := 2) (by omega)
    go_wp2
    clear d2
    go_loopw [11] (fun t wr => ∃ j : Nat, i ≤ j ∧ j ≤ n ∧ t = .int .i64 j ∧ Below H w wr ∧ wr.rowIs w.heap.size 61 4 (rowf fun _ => ent v0 v1 v2 v3) ∧ IsLog wr L B1 S h n (shifted S h n j F)) (fun t _ => (intOf t).toNat)
    case atStart => exact ⟨n, hi, Nat.le_refl _, rfl, hbel2, hX2, by rw [shifted_start]; exact hl2⟩
    case round =>
      obtain ⟨j, hj1, hj2, rfl, hbr, hXr, hlr⟩ := hrel
      by_cases hlt : i < j
      · have p1 := pos_lt hh1 (show j < S by omega)
        have p2 := pos_lt hh1 (show j - 1 < S by omega)
        have q1 := pos_spec S h j
        have q2 := pos_spec S h (j - 1)
        rw [show ((j - 1 : Nat) : Int) = (j : Int) - 1 from by omega] at q2
        have s0 := row_cell0 hlr.2 _ p2
        have s1 := row_cell1 hlr.2 _ p2
        have s2 := row_cell2 hlr.2 _ p2
        have s3 := row_cell3 hlr.2 _ p2
        have t0 := row_cell0 hlr.2 _ p1
        have t1 := row_cell1 hlr.2 _ p1
        have t2 := row_cell2 hlr.2 _ p1
        have t3 := row_cell3 hlr.2 _ p1
        have z0 := hlr.2.frozen (pos S h j * 4)
        have z1 := hlr.2.frozen (pos S h j * 4 + 1)
        have z2 := hlr.2.frozen (pos S h j * 4 + 2)
        have z3 := hlr.2.frozen (pos S h j * 4 + 3)
        go_wp2_with fail
        refine (at32 L B1 S (pos S h j) h n j _ _ (by omega) (by omega) (by omega) p1 q1 hlr).mono ?_
        rintro e w' ⟨rfl, rfl⟩
        go_wp2_with fail
        have C := at32 L B1 S (pos S h (j - 1)) h n (↑j - 1) _ _ (by omega) (by omega) (by omega) p2 q2 hlr
        refine C.mono ?_
        clear C
        rintro e w2 ⟨rfl, rfl⟩
        have R := row_put hlr.2 (pos S h j) (shifted S h n j F (pos S h (j - 1)) 0) (shifted S h n j F (pos S h (j - 1)) 1) (shifted S h n j F (pos S h (j - 1)) 2) (shifted S h n j F (pos S h (j - 1)) 3)
        go_wp2
        go_roundw
        case rel =>
          refine ⟨j - 1, by omega, by omega, by go_num, (((hbr.setCell hHB1 _).setCell hHB1 _).setCell hHB1 _).setCell hHB1 _, 
            (((hXr.setOther (Ne.symm hBX1) _).setOther (Ne.symm hBX1) _).setOther (Ne.symm hBX1) _).setOther (Ne.symm hBX1) _, ?_, ?_⟩
          · have hne := row_ne hlr.1 hlr.2 (by decide)
            exact (((hlr.1.setOther hne _).setOther hne _).setOther hne _).setOther hne _
          · refine R.congr fun o ho => ?_
            have hp : o / 4 < S := by omega
            have := shifted_step F hh1 (show 0 < j by omega) hj2 (show j < S by omega) (o / 4) hp
            simp only [rowf]
            rw [← this]
            by_cases e : o / 4 = pos S h j
            · rw [if_pos e, if_pos e, ent_eta _ _ (by omega), shifted_before F hh1 (by omega) (by omega)]
            · rw [if_neg e, if_neg e]
        case measure => simp [intOf]; omega
      · have hji : j = i := by omega
        subst hji
        have p1 := pos_lt hh1 (show j < S by omega)
        have q1 := pos_spec S h j
        have t0 := row_cell0 hlr.2 _ p1
        have t1 := row_cell1 hlr.2 _ p1
        have t2 := row_cell2 hlr.2 _ p1
        have t3 := row_cell3 hlr.2 _ p1
        have z0 := hlr.2.frozen (pos S h j * 4)
        have z1 := hlr.2.frozen (pos S h j * 4 + 1)
        have z2 := hlr.2.frozen (pos S h j * 4 + 2)
        have z3 := hlr.2.frozen (pos S h j * 4 + 3)
        have x0 : wr.cell? ⟨w.heap.size, 0, none⟩ = some (.int .u64 v0) := hXr.cell (i := 0) (by omega)
        have x1 : wr.cell? ⟨w.heap.size, 1, none⟩ = some (.int .u64 v1) := hXr.cell (i := 1) (by omega)
        have x2 : wr.cell? ⟨w.heap.size, 2, none⟩ = some (.int .i64 v2) := hXr.cell (i := 2) (by omega)
        have x3 : wr.cell? ⟨w.heap.size, 3, none⟩ = some (.int .u64 v3) := hXr.cell (i := 3) (by omega)
        go_wp2
        have C := at32 L B1 S (pos S h j) h n j (shifted S h n j F) wr.drew (by omega) (by omega) (by omega) p1 q1 hlr
        go_region_with (go_at_call 32; refine C.mono ?_; rintro e w' ⟨rfl, rfl⟩)
        all_goals
          clear C t0 t1 t2 t3 z0 z1 z2 z3 x0 x1 x2 x3
          have R := (row_put hlr.2 (pos S h j) v0 v1 v2 v3).drew
          have hne := row_ne hlr.1 hlr.2 (by decide)
          have RL := ((((hlr.1.setOther (a := ⟨B1, pos S h j * 4, none⟩) hne (.int .u64 v0)).setOther (a := ⟨B1, pos S h j * 4 + 1, none⟩) hne (.int .u64 v1)).setOther (a := ⟨B1, pos S h j * 4 + 2, none⟩) hne (.int .i64 v2)).setOther (a := ⟨B1, pos S h j * 4 + 3, none⟩) hne (.int .u64 v3)).drew
          have RB := ((((hbr.setCell (p := ⟨B1, pos S h j * 4, none⟩) hHB1 (.int .u64 v0)).setCell (p := ⟨B1, pos S h j * 4 + 1, none⟩) hHB1 (.int .u64 v1)).setCell (p := ⟨B1, pos S h j * 4 + 2, none⟩) hHB1 (.int .i64 v2)).setCell (p := ⟨B1, pos S h j * 4 + 3, none⟩) hHB1 (.int .u64 v3)).drew
          clear hlr hbr hXr
          generalize ((((wr.setCell ⟨B1, pos S h j * 4, none⟩ (.int .u64 v0)).setCell ⟨B1, pos S h j * 4 + 1, none⟩ (.int .u64 v1)).setCell ⟨B1, pos S h j * 4 + 2, none⟩ (.int .i64 v2)).setCell ⟨B1, pos S h j * 4 + 3, none⟩ (.int .u64 v3)).drew = w2 at *
          have d2 : w2.cell? ⟨L, 2, none⟩ = some (.int .i64 n) := RL.cell (i := 2) (by omega)
          have f2 := RL.frozen 2
          go_wp2
          go_end0
          rw [EE.out.1, EE.out.2.1, EE.out.2.2]
          refine ⟨rfl, RB.setCell hL _, B1, hHB1, ?_, ?_⟩
          · refine (RL.set 2 _).congr fun o ho => ?_
            have : o = 0 ∨ o = 1 ∨ o = 2 := by omega
            rcases this with h | h | h <;> subst h <;> simp [logf]
          · exact R.setOther (a := ⟨L, 2, none⟩) (Ne.symm hne) _

set_option maxHeartbeats 400000 in
theorem zzinsert17 (L B size head n i H : Nat) (hd : Int) (limit : Int) (v0 v1 v2 v3 : Int) (E : Nat → Nat → Int) (w : World) (hs : size ≤ 16384) (hn : n ≤ size) (hhd : Hid (0 < size → hd = head ∧ head < size)) (hi : i ≤ n) (hL : H ≤ L) (hB : H ≤ B)
    (hl : IsLog w L B size hd n E) :
    Calls Try.prog 17 #[.pointer (some ⟨L, 0, none⟩), .int .i64 i, .int .u64 v0, .int .u64 v1, .int .i64 v2, .int .u64 v3, .int .i64 limit] w fun e w' => e = .returned (.tuple #[]) ∧ Below H w w' ∧
      ∃ B1, H ≤ B1 ∧ IsLog w' L B1 (size1 size n limit) (head1 size head n) ((n + 1 : Nat) : Int) (entsIns (size1 size n limit) (head1 size head n) n i (ents1 size head n E) (ent v0 v1 v2 v3)) := by
  have C := insert31 L B size head n i H hd limit v0 v1 v2 v3 E w hs hn hhd hi hL hB hl
  go_enter Try.func17, Try.ntmps17
  go_wp2_with fail
  refine C.mono ?_
  clear C
  rintro e w1 ⟨rfl, hb, hB1⟩
  go_wp2
  go_end0
  exact ⟨rfl, hb, hB1⟩

end Go.Proofs.Qxb6601511a
