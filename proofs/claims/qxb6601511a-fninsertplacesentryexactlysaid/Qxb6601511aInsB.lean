import Derived.Test.Qxb6601511aInsA
namespace Go.Proofs.Qxb6601511a
open Go.RowKit

theorem vint {a b : Int} (h : a = b) : Value.int .i64 a = .int .i64 b := by rw [h]

set_option maxRecDepth 100000 in
set_option maxHeartbeats 4000000 in
theorem main5 (a0 : Option Addr) (len0 cap0 : Nat) (z0 : Nat → Int) (a1 : Option Addr) (len1 cap1 : Nat) (z1 : Nat → Int) (a2 : Option Addr) (len2 cap2 : Nat) (z2 : Nat → Int) (a3 : Option Addr) (len3 cap3 : Nat) (z3 : Nat → Int) 
    (a4 a5 a6 a7 a8 a9 a10 a11 : Int) (w : World) (s0 : Src .u64 w a0 len0 z0) (s1 : Src .u64 w a1 len1 z1) (s2 : Src .i64 w a2 len2 z2) (s3 : Src .u64 w a3 len3 z3)
    (h0 : len0 ≤ 16384) (h1 : len1 ≤ 16384) (h2 : len2 ≤ 16384) (h3 : len3 ≤ 16384) :
    Calls Try.prog 5 #[.slice a0 len0 cap0, .slice a1 len1 cap1, .slice a2 len2 cap2, .slice a3 len3 cap3, .int .i64 a4, .int .i64 a5, .int .i64 a6, .int .u64 a7, .int .u64 a8, .int .i64 a9, .int .u64 a10, .int .i64 a11] w fun e w' => e = .returned (.bool true) ∧ Below w.heap.size w w' := by
  have m0 := run_make22 len0 (by omega)
  have m1 := run_make22 len1 (by omega)
  have m2 := run_make31 len2 (by omega)
  have m3 := run_make22 len3 (by omega)
  have e22 := fun w a n c n' c' => run_neq_slice_nil_any (P := Try.prog) w 22 23 a n c n' c' Try.underlying22
  have e31 := fun w a n c n' c' => run_neq_slice_nil_any (P := Try.prog) w 31 3 a n c n' c' Try.underlying31
  have C := bytes15 a0 a1 a2 a3 len0 len1 len2 len3 cap0 cap1 cap2 cap3 (.int .i64 a4) (.int .i64 a5) (.int .i64 a6) (.int .u64 a7) (.int .u64 a8) (.int .i64 a9) (.int .u64 a10) (.int .i64 a11) w (by omega) (by omega) (by omega) (by omega)
  go_enter Try.func5, Try.ntmps5
  go_wp2_with fail
  refine C.mono ?_
  clear C
  rintro e w' ⟨rfl, rfl⟩
  go_upto_if 86 with (fail)
  go_cut [0] from 53 to 92 (fun v wc => Cp w'.heap.size .u64 23 wc v len0 z0 ∧ Below w'.heap.size w' wc)
  case first =>
    as_aux_lemma =>
      rcases a0 with _ | x
      · have hz := s0.1 rfl
        go_wp2
        go_meet
        case rel => exact ⟨⟨none, cap0, rfl, fun h => by omega⟩, Below.refl _ _⟩
      · obtain ⟨wd, hrun, hcp, hbd⟩ := run_make_copy w' 22 23 .u64 Try.underlying22 (by kernel_rfl) (some x) len0 cap0 z0 s0
        go_wp2
        go_meet
        case rel => exact ⟨hcp, hbd⟩
  case rest =>

    obtain ⟨cp0, b0⟩ := hcut
    obtain ⟨W0, rfl⟩ : ∃ W0, W0 = wc := ⟨_, rfl⟩
    have s1 := s1.below (Nat.le_refl _) b0
    have s2 := s2.below (Nat.le_refl _) b0
    have s3 := s3.below (Nat.le_refl _) b0
    go_upto_if 95 with (fail)
    go_cut [1] from 93 to 101 (fun v wc => Cp W0.heap.size .u64 23 wc v len1 z1 ∧ Below W0.heap.size W0 wc)
    case first =>
      as_aux_lemma =>
        rcases a1 with _ | x
        · have hz := s1.1 rfl
          go_wp2
          go_meet
          case rel => exact ⟨⟨none, cap1, rfl, fun h => by omega⟩, Below.refl _ _⟩
        · obtain ⟨wd, hrun, hcp, hbd⟩ := run_make_copy W0 22 23 .u64 Try.underlying22 (by kernel_rfl) (some x) len1 cap1 z1 s1
          go_wp2
          go_meet
          case rel => exact ⟨hcp, hbd⟩
    case rest =>

      obtain ⟨cp1, b1⟩ := hcut
      obtain ⟨W1, rfl⟩ : ∃ W1, W1 = wc := ⟨_, rfl⟩
      have cp0 := cp0.below b1
      have s2 := s2.below (Nat.le_refl _) b1
      have s3 := s3.below (Nat.le_refl _) b1
      go_upto_if 104 with (fail)
      go_cut [2] from 102 to 110 (fun v wc => Cp W1.heap.size .i64 3 wc v len2 z2 ∧ Below W1.heap.size W1 wc)
      case first =>
        as_aux_lemma =>
          rcases a2 with _ | x
          · have hz := s2.1 rfl
            go_wp2
            go_meet
            case rel => exact ⟨⟨none, cap2, rfl, fun h => by omega⟩, Below.refl _ _⟩
          · obtain ⟨wd, hrun, hcp, hbd⟩ := run_make_copy W1 31 3 .i64 Try.underlying31 (by kernel_rfl) (some x) len2 cap2 z2 s2
            go_wp2
            go_meet
            case rel => exact ⟨hcp, hbd⟩
      case rest =>

        obtain ⟨cp2, b2⟩ := hcut
        obtain ⟨W2, rfl⟩ : ∃ W2, W2 = wc := ⟨_, rfl⟩
        have cp0 := cp0.below b2
        have cp1 := cp1.below b2
        have s3 := s3.below (Nat.le_refl _) b2
        go_upto_if 113 with (fail)
        go_cut [3] from 111 to 119 (fun v wc => Cp W2.heap.size .u64 23 wc v len3 z3 ∧ Below W2.heap.size W2 wc)
        case first =>
          as_aux_lemma =>
            rcases a3 with _ | x
            · have hz := s3.1 rfl
              go_wp2
              go_meet
              case rel => exact ⟨⟨none, cap3, rfl, fun h => by omega⟩, Below.refl _ _⟩
            · obtain ⟨wd, hrun, hcp, hbd⟩ := run_make_copy W2 22 23 .u64 Try.underlying22 (by kernel_rfl) (some x) len3 cap3 z3 s3
              go_wp2
              go_meet
              case rel => exact ⟨hcp, hbd⟩
        case rest =>

          obtain ⟨cp3, b3⟩ := hcut
          obtain ⟨W3, rfl⟩ : ∃ W3, W3 = wc := ⟨_, rfl⟩
          have cp0 := cp0.below b3
          have cp1 := cp1.below b3
          have cp2 := cp2.below b3
          have bz : Below w'.heap.size w' W3 := ((b0.trans (b1.mono b0.size)).trans (b2.mono (Nat.le_trans b0.size b1.size))).trans (b3.mono (Nat.le_trans b0.size (Nat.le_trans b1.size b2.size)))
          clear b0 b1 b2 b3 s0 s1 s2 s3 m0 m1 m2 m3 e22 e31
          obtain ⟨p0, c0, rfl, cp0⟩ := cp0
          obtain ⟨p1, c1, rfl, cp1⟩ := cp1
          obtain ⟨p2, c2, rfl, cp2⟩ := cp2
          obtain ⟨p3, c3, rfl, cp3⟩ := cp3
          go_upto_region 22 with (fail)
          by_cases l1 : len1 = len0
          rotate_left
          · have q1 : ((len1 : Int) != (len0 : Int)) = true := by rw [bne_iff_ne]; omega
            go_wp2
            go_ret
            exact ⟨rfl, bz⟩
          by_cases l2 : len2 = len0
          rotate_left
          · have q1 : ((len1 : Int) != (len0 : Int)) = false := by rw [bne_eq_false_iff_eq]; omega
            have q2 : ((len2 : Int) != (len0 : Int)) = true := by rw [bne_iff_ne]; omega
            clear l1
            go_wp2
            go_ret
            exact ⟨rfl, bz⟩
          by_cases l3 : len3 = len0
          rotate_left
          · have q1 : ((len1 : Int) != (len0 : Int)) = false := by rw [bne_eq_false_iff_eq]; omega
            have q2 : ((len2 : Int) != (len0 : Int)) = false := by rw [bne_eq_false_iff_eq]; omega
            have q3 : ((len3 : Int) != (len0 : Int)) = true := by rw [bne_iff_ne]; omega
            clear l1 l2
            go_wp2
            go_ret
            exact ⟨rfl, bz⟩
          obtain rfl := l1.symm
          obtain rfl := l2.symm
          obtain rfl := l3.symm
          go_wp2_with fail
          have C := shape9 len0 a4 a5 W3
          refine C.mono ?_
          clear C
          rintro e w4 ⟨rfl, rfl⟩
          cases hsh : shapeB len0 a4 a5
          · as_aux_lemma =>
              go_wp2
              go_ret
              exact ⟨rfl, bz⟩
          have hsh' := hsh
          simp only [shapeB, decide_eq_true_eq] at hsh'
          obtain ⟨hn0, hn1, hhd⟩ := hsh'
          by_cases i0 : a6 < 0
          · as_aux_lemma =>
              go_wp2
              go_ret
              exact ⟨rfl, bz⟩
          by_cases i1 : a5 < a6
          · as_aux_lemma =>
              go_wp2
              go_ret
              exact ⟨rfl, bz⟩
          obtain ⟨n, rfl⟩ := Int.eq_ofNat_of_zero_le hn0
          obtain ⟨i, rfl⟩ := Int.eq_ofNat_of_zero_le (show 0 ≤ a6 by omega)
          obtain ⟨head, hd⟩ : ∃ head : Nat, Hid (0 < len0 → a4 = (head : Int) ∧ head < len0) := ⟨a4.toNat, fun h => by have := hhd (by omega); omega⟩
          clear hhd hsh
          go_wp2_with fail
          have conv : ∀ {Hh : Nat} {k : IntKind} {t : TypeId} {p : Option Addr} {z : Nat → Int}, (0 < len0 → ∃ b, p = some ⟨b, 0, none⟩ ∧ Hh ≤ b ∧ b < w4.heap.size ∧ w4.rowIs b t len0 (fun i => .int k (z i))) → (0 < len0 → ∃ b, p = some ⟨b, 0, none⟩ ∧ b < w4.heap.size ∧ w4.rowIs b t len0 (fun i => .int k (z i))) :=
            fun h hl => by obtain ⟨b, e1, _, e3, e4⟩ := h hl; exact ⟨b, e1, e3, e4⟩
          have cp0 := conv cp0
          have cp1 := conv cp1
          have cp2 := conv cp2
          have cp3 := conv cp3
          clear conv
          have C := build16 p0 p1 p2 p3 c0 c1 c2 c3 len0 a4 n z0 z1 z2 z3 w4 (by omega) cp0 cp1 cp2 cp3
          refine C.mono ?_
          clear C
          rintro e w5 ⟨rfl, b5, z5, L5⟩
          have C := zzinsert17 (w4.heap.size + 1) w4.heap.size len0 head n i w4.heap.size a4 a11 a7 a8 a9 a10 _ w5 h0 (by omega) hd (by omega) (by omega) (Nat.le_refl _) L5
          go_wp2_with fail
          refine C.mono ?_
          clear C L5
          rintro e w6 ⟨rfl, b6, B1, hB1, L6⟩
          have hS0 : size1 len0 n a11 ≤ 32768 := by unfold size1; split; (rename_i e; rw [← e]; exact newSize_le n a11 (by omega)); omega
          have C := unpack18 _ _ _ _ _ _ w6 (by omega) L6
          go_wp2_with fail
          refine C.mono ?_
          clear C L6
          rintro e w7 ⟨rfl, b7, z7, R7⟩
          have hN : w4.heap.size ≤ w6.heap.size := by have := b6.size; omega
          have B7 : Below w4.heap.size w4 w7 := (b5.trans b6).trans (b7.mono hN)
          have EE := fun p hp => ins_at (size := len0) (head := head) (n := n) (i := i) a11 (comp4 z0 z1 z2 z3) (ent a7 a8 a9 a10) (by omega) (fun h => (hd.out h).2) (by omega) p hp
          have ES : Hid (size1 len0 n a11 = size1 len0 n a11 ∧ head1 len0 head n = head1 len0 head n) := ⟨rfl, rfl⟩
          generalize hGs : entsIns (size1 len0 n a11) (head1 len0 head n) n i (ents1 len0 head n (comp4 z0 z1 z2 z3)) (ent a7 a8 a9 a10) = G at *
          generalize hSs : size1 len0 n a11 = S at *
          generalize hHs : head1 len0 head n = h' at *
          have EQ : Hid (size1 len0 n a11 = S ∧ head1 len0 head n = h' ∧ (∀ (p : Nat), p < S → G p = if idx S h' p < n + 1 then wantW len0 head i (comp4 z0 z1 z2 z3) (ent a7 a8 a9 a10) (idx S h' p) else if n < len0 then comp4 z0 z1 z2 z3 p else fun _ => 0)) := ⟨hSs, hHs, EE⟩
          clear hGs hSs hHs EE ES
          have W1 : Hid (wantW len0 head i (comp4 z0 z1 z2 z3) (ent a7 a8 a9 a10) i = ent a7 a8 a9 a10) := by show _ = _; simp [wantW]
          have W2 : Hid (∀ k, k < i → wantW len0 head i (comp4 z0 z1 z2 z3) (ent a7 a8 a9 a10) k = comp4 z0 z1 z2 z3 (pos len0 head k)) := fun k hk => by simp [wantW, show ¬ k = i by omega, show ¬ i < k by omega]
          have W3' : Hid (∀ k, i < k → wantW len0 head i (comp4 z0 z1 z2 z3) (ent a7 a8 a9 a10) k = comp4 z0 z1 z2 z3 (pos len0 head (k - 1))) := fun k hk => by simp [wantW, show ¬ k = i by omega, hk]
          generalize wantW len0 head i (comp4 z0 z1 z2 z3) (ent a7 a8 a9 a10) = Wn at *
          clear b5 z5 b6 b7 hB1
          have hm22 := run_make22 (n + 1) (by omega)
          have hm31 := run_make31 (n + 1) (by omega)
          rw [show ((n + 1 : Nat) : Int) = (n : Int) + 1 from by omega] at hm22 hm31
          have M := made4 w7 (n + 1)
          have BM := ((((Below.refl w7.heap.size w7).alloc (Nat.le_refl _) (.cells (madeCells #[.int .u64 0] (n + 1)) 23)).alloc (by simp) (.cells (madeCells #[.int .u64 0] (n + 1)) 23)).alloc (by simp; omega) (.cells (madeCells #[.int .i64 0] (n + 1)) 3)).alloc (by simp; omega) (.cells (madeCells #[.int .u64 0] (n + 1)) 23)
          rw [z7] at M BM
          go_upto_region 36 with (fail)
          generalize ((((w7.alloc (.cells (madeCells #[.int .u64 0] (n + 1)) 23)).alloc (.cells (madeCells #[.int .u64 0] (n + 1)) 23)).alloc (.cells (madeCells #[.int .i64 0] (n + 1)) 3)).alloc (.cells (madeCells #[.int .u64 0] (n + 1)) 23)) = w8 at *
          have B8 : Below w4.heap.size w4 w8 := B7.trans (BM.mono (by omega))
          have R8 : Rows4 w8 w6.heap.size S (fun p => G p 0) (fun p => G p 1) (fun p => G p 2) (fun p => G p 3) := ⟨row_same R7.1 BM (by omega), row_same R7.2.1 BM (by omega), row_same R7.2.2.1 BM (by omega), row_same R7.2.2.2 BM (by omega)⟩
          clear hm22 hm31 B7 R7 BM z7
          generalize w6.heap.size = N at *
          go_wp2
          go_loopw [42] (fun t wr => ∃ k : Nat, k ≤ n + 1 ∧ t = .int .i64 k ∧ Below (N + 4) w8 wr ∧ Rows4 wr (N + 4) (n + 1) (fun p => if p < k then Wn p 0 else 0) (fun p => if p < k then Wn p 1 else 0) (fun p => if p < k then Wn p 2 else 0) (fun p => if p < k then Wn p 3 else 0)) (fun t _ => n + 1 - (intOf t).toNat)
          case atStart => exact ⟨0, Nat.zero_le _, rfl, Below.refl _ _, by simpa using M⟩
          case round =>
            obtain ⟨k, hk, rfl, hbr, hrr⟩ := hrel
            clear M
            by_cases hlt : k < n + 1
            · have t0 := hrr.1.cell hlt
              have t1 := hrr.2.1.cell hlt
              have t2 := hrr.2.2.1.cell hlt
              have t3 := hrr.2.2.2.cell hlt
              have f0 := hrr.1.frozen k
              have f1 := hrr.2.1.frozen k
              have f2 := hrr.2.2.1.frozen k
              have f3 := hrr.2.2.2.frozen k
              by_cases hki : k = i
              · have hb : ((k : Int) == (i : Int)) = true := by rw [beq_iff_eq]; omega
                have RR := rows4_put hrr k a7 a8 a9 a10
                have HK : Hid (k = i) := hki
                clear hki
                as_aux_lemma =>
                  go_wp2
                  go_roundw
                  case rel =>
                    refine ⟨k + 1, by omega, by go_num, (((hbr.setCell (by simp) _).setCell (by simp) _).setCell (by simp) _).setCell (by simp) _, ?_⟩
                    refine rows4_congr RR fun j hj => ?_
                    by_cases e : j = k
                    · rw [e, HK.out, W1.out]; simp [ent]
                    · have : j < k + 1 ↔ j < k := by omega
                      simp [e, this]
                  case measure => simp [intOf]; omega
              · have hb : ((k : Int) == (i : Int)) = false := by rw [beq_eq_false_iff_ne]; omega
                obtain ⟨hq, hlt2⟩ := hd.out (by omega)
                subst hq
                obtain ⟨b0, rfl, hb0, q0⟩ := cp0 (by omega)
                obtain ⟨b1, rfl, hb1, q1⟩ := cp1 (by omega)
                obtain ⟨b2, rfl, hb2, q2⟩ := cp2 (by omega)
                obtain ⟨b3, rfl, hb3, q3⟩ := cp3 (by omega)
                have Br : Below w4.heap.size w4 wr := B8.trans (hbr.mono (by omega))
                have g0 := row_same q0 Br hb0
                have g1 := row_same q1 Br hb1
                have g2 := row_same q2 Br hb2
                have g3 := row_same q3 Br hb3
                have n00 : b0 ≠ N + 4 := by omega
                have n10 : b1 ≠ N + 4 := by omega
                have n11 : b1 ≠ N + 4 + 1 := by omega
                have n20 : b2 ≠ N + 4 := by omega
                have n21 : b2 ≠ N + 4 + 1 := by omega
                have n22 : b2 ≠ N + 4 + 1 + 1 := by omega
                have n30 : b3 ≠ N + 4 := by omega
                have n31 : b3 ≠ N + 4 + 1 := by omega
                have n32 : b3 ≠ N + 4 + 1 + 1 := by omega
                have n33 : b3 ≠ N + 4 + 1 + 1 + 1 := by omega
                clear q0 q1 q2 q3 cp0 cp1 cp2 cp3 EQ
                by_cases hgt : i < k
                · have hp := pos_mod hlt2 (show k - 1 < len0 by omega)
                  rw [show ((k - 1 : Nat) : Int) = (k : Int) - 1 from by omega] at hp
                  have hpl := pos_lt hlt2 (show k - 1 < len0 by omega)
                  have EW := W3'.out k hgt
                  have EW : Hid (Wn k = comp4 z0 z1 z2 z3 (pos len0 head (k - 1))) := EW
                  generalize pos len0 head (k - 1) = P at *
                  have d0 := g0.cell hpl
                  have d1 := g1.cell hpl
                  have d2 := g2.cell hpl
                  have d3 := g3.cell hpl
                  have RR := rows4_put hrr k (z0 P) (z1 P) (z2 P) (z3 P)
                  as_aux_lemma =>
                    go_wp2
                    go_roundw
                    case rel =>
                      refine ⟨k + 1, by omega, by go_num, (((hbr.setCell (by simp) _).setCell (by simp) _).setCell (by simp) _).setCell (by simp) _, ?_⟩
                      refine rows4_congr RR fun j hj => ?_
                      by_cases e : j = k
                      · rw [e, EW.out]; simp [ent, comp4]
                      · have : j < k + 1 ↔ j < k := by omega
                        simp [e, this]
                    case measure => simp [intOf]; omega
                · have hp := pos_mod hlt2 (show k < len0 by omega)
                  have hpl := pos_lt hlt2 (show k < len0 by omega)
                  have EW := W2.out k (by omega)
                  have EW : Hid (Wn k = comp4 z0 z1 z2 z3 (pos len0 head k)) := EW
                  generalize pos len0 head k = P at *
                  have d0 := g0.cell hpl
                  have d1 := g1.cell hpl
                  have d2 := g2.cell hpl
                  have d3 := g3.cell hpl
                  have RR := rows4_put hrr k (z0 P) (z1 P) (z2 P) (z3 P)
                  as_aux_lemma =>
                    go_wp2
                    go_roundw
                    case rel =>
                      refine ⟨k + 1, by omega, by go_num, (((hbr.setCell (by simp) _).setCell (by simp) _).setCell (by simp) _).setCell (by simp) _, ?_⟩
                      refine rows4_congr RR fun j hj => ?_
                      by_cases e : j = k
                      · rw [e, EW.out]; simp [ent, comp4]
                      · have : j < k + 1 ↔ j < k := by omega
                        simp [e, this]
                    case measure => simp [intOf]; omega
            · have hkn : k = n + 1 := by omega
              have RW : Rows4 wr (N + 4) (n + 1) (fun p => Wn p 0) (fun p => Wn p 1) (fun p => Wn p 2) (fun p => Wn p 3) := rows4_congr hrr fun j hj => by simp [show j < k by omega]
              clear hrr hkn
              have Br : Below w4.heap.size w4 wr := B8.trans (hbr.mono (by omega))
              have R9 : Rows4 wr N S (fun p => G p 0) (fun p => G p 1) (fun p => G p 2) (fun p => G p 3) := ⟨row_same R8.1 hbr (by omega), row_same R8.2.1 hbr (by omega), row_same R8.2.2.1 hbr (by omega), row_same R8.2.2.2 hbr (by omega)⟩
              have BZ : Below w'.heap.size w' wr := bz.trans (Br.mono bz.size)
              clear hbr R8 B8 W1 W2 W3'
              go_upto_if 252 with (fail)
              have hS : n < S ∧ h' < S := by
                obtain ⟨e1, e2, _⟩ := EQ.out
                rw [← e1, ← e2]
                unfold size1 head1
                by_cases hf : n = len0
                · have := newSize_gt n a11
                  rw [if_pos hf, if_pos hf, ← hf]; omega
                · have := (hd.out (by omega)).2
                  rw [if_neg hf, if_neg hf]; omega
              obtain ⟨hS1, hS2⟩ := hS
              go_cut [45, 46] from 185 to 265 (fun s t wc => s = .int .i64 S ∧ t = .int .i64 h' ∧ wr = wc)
              case first =>
                as_aux_lemma =>
                  obtain ⟨e1, e2, _⟩ := EQ.out
                  by_cases hf : n = len0
                  · have hb : ((n : Int) == (len0 : Int)) = true := by rw [beq_iff_eq]; omega
                    have e2' : h' = 0 := by rw [← e2]; simp [head1, hf]
                    have e1' : S = newSize len0 len0 a11 := by rw [← e1]; unfold size1; rw [if_pos hf, hf]
                    have HF : Hid (n = len0) := hf
                    have HE : Hid (h' = 0) := e2'
                    have HS : Hid (S = newSize len0 len0 a11) := e1'
                    clear hf e1 e2 e1' e2' EQ
                    by_cases hz : len0 = 0
                    · have hb2 : ((2 * (len0 : Int)) == 0) = true := by rw [beq_iff_eq]; omega
                      have HZ : Hid (len0 = 0) := hz
                      clear hz
                      go_wp2
                      all_goals
                        go_meet
                        case rel =>
                          have q1 := HF.out; have q2 := HE.out; have q3 := HZ.out
                          have q4 := HS.out; unfold newSize at q4
                          refine ⟨vint ?_, vint (by omega), rfl⟩
                          split at q4 <;> omega
                    · have hb2 : ((2 * (len0 : Int)) == 0) = false := by rw [beq_eq_false_iff_ne]; omega
                      go_wp2
                      all_goals
                        go_meet
                        case rel =>
                          have q1 := HF.out; have q2 := HE.out
                          have q4 := HS.out; unfold newSize at q4
                          refine ⟨vint ?_, vint (by omega), rfl⟩
                          split at q4 <;> omega
                  · have hb : ((n : Int) == (len0 : Int)) = false := by rw [beq_eq_false_iff_ne]; omega
                    have HS : Hid (S = len0 ∧ h' = head) := by
                      rw [← e1, ← e2]; unfold size1 head1; rw [if_neg hf, if_neg hf]; exact ⟨rfl, rfl⟩
                    have HA : Hid (a4 = (head : Int)) := (hd.out (by omega)).1
                    clear e1 e2 hf
                    go_wp2
                    go_meet
                    case rel =>
                      have q1 := HS.out; have q2 := HA.out
                      exact ⟨vint (by omega), vint (by omega), rfl⟩
              case rest =>
                obtain ⟨rfl, rfl, rfl⟩ := hcut
                go_wp2
                go_loop [47] (fun t => ∃ p : Nat, p ≤ S ∧ t = .int .i64 p) (fun t => S - (intOf t).toNat)
                case atStart => exact ⟨0, Nat.zero_le _, rfl⟩
                case round =>
                  obtain ⟨p, hp, rfl⟩ := hrel
                  by_cases hlt : p < S
                  · have r0 := R9.1.cell hlt
                    have r1 := R9.2.1.cell hlt
                    have r2 := R9.2.2.1.cell hlt
                    have r3 := R9.2.2.2.cell hlt
                    obtain ⟨q1, q2, q3⟩ := EQ.out
                    have q4 := q3 p hlt
                    have hKl := idx_lt hS2 hlt
                    have hKe : (h' ≤ p ∧ (p : Int) - h' = (idx S h' p : Nat)) ∨ (p < h' ∧ (p : Int) - h' + S = (idx S h' p : Nat)) := by unfold idx; split <;> omega
                    generalize idx S h' p = K at *
                    have HQ : Hid (size1 len0 n a11 = S ∧ head1 len0 head n = h') := ⟨q1, q2⟩
                    clear q1 q2 q3 EQ
                    by_cases hKm : K < n + 1
                    · rw [if_pos hKm] at q4
                      have w0 := RW.1.cell hKm
                      have w1 := RW.2.1.cell hKm
                      have w2 := RW.2.2.1.cell hKm
                      have w3 := RW.2.2.2.cell hKm
                      have v0 : G p 0 = Wn K 0 := by rw [q4]
                      have v1 : G p 1 = Wn K 1 := by rw [q4]
                      have v2 : G p 2 = Wn K 2 := by rw [q4]
                      have v3 : G p 3 = Wn K 3 := by rw [q4]
                      clear q4 hd
                      rcases hKe with ⟨hh1, hKe⟩ | ⟨hh1, hKe⟩
                      · as_aux_lemma =>
                          go_wp2
                          go_round
                          case rel => exact ⟨p + 1, by omega, by go_num⟩
                          case measure => simp [intOf]; omega
                      · as_aux_lemma =>
                          go_wp2
                          go_round
                          case rel => exact ⟨p + 1, by omega, by go_num⟩
                          case measure => simp [intOf]; omega
                    · rw [if_neg hKm] at q4
                      by_cases hnl : n < len0
                      · rw [if_pos hnl] at q4
                        have hSl : Hid (S = len0) := by
                          rw [← HQ.out.1]; unfold size1; rw [if_neg (by omega)]; rfl
                        have hpl : p < len0 := by rw [← hSl.out]; exact hlt
                        obtain ⟨b0, rfl, hb0, y0⟩ := cp0 (by omega)
                        obtain ⟨b1, rfl, hb1, y1⟩ := cp1 (by omega)
                        obtain ⟨b2, rfl, hb2, y2⟩ := cp2 (by omega)
                        obtain ⟨b3, rfl, hb3, y3⟩ := cp3 (by omega)
                        have g0 := (row_same y0 Br hb0).cell hpl
                        have g1 := (row_same y1 Br hb1).cell hpl
                        have g2 := (row_same y2 Br hb2).cell hpl
                        have g3 := (row_same y3 Br hb3).cell hpl
                        have v0 : G p 0 = z0 p := by rw [q4]; rfl
                        have v1 : G p 1 = z1 p := by rw [q4]; rfl
                        have v2 : G p 2 = z2 p := by rw [q4]; rfl
                        have v3 : G p 3 = z3 p := by rw [q4]; rfl
                        clear q4 hd cp0 cp1 cp2 cp3
                        rcases hKe with ⟨hh1, hKe⟩ | ⟨hh1, hKe⟩
                        · as_aux_lemma =>
                            go_wp2
                            go_round
                            case rel => exact ⟨p + 1, by omega, by go_num⟩
                            case measure => simp [intOf]; omega
                        · as_aux_lemma =>
                            go_wp2
                            go_round
                            case rel => exact ⟨p + 1, by omega, by go_num⟩
                            case measure => simp [intOf]; omega
                      · rw [if_neg hnl] at q4
                        have v0 : G p 0 = 0 := by rw [q4]
                        have v1 : G p 1 = 0 := by rw [q4]
                        have v2 : G p 2 = 0 := by rw [q4]
                        have v3 : G p 3 = 0 := by rw [q4]
                        clear q4 hd
                        rcases hKe with ⟨hh1, hKe⟩ | ⟨hh1, hKe⟩
                        · as_aux_lemma =>
                            go_wp2
                            go_round
                            case rel => exact ⟨p + 1, by omega, by go_num⟩
                            case measure => simp [intOf]; omega
                        · as_aux_lemma =>
                            go_wp2
                            go_round
                            case rel => exact ⟨p + 1, by omega, by go_num⟩
                            case measure => simp [intOf]; omega
                  · as_aux_lemma =>
                      go_wp2
                      go_ret
                      exact ⟨rfl, BZ⟩

end Go.Proofs.Qxb6601511a
