/-
  Contracts: zzAdd, zzMsgsBytes.
-/
import Derived.Test.Qxb6601521aBase
import Derived.Deep.CutBlock
namespace Go.Proofs.Qxb6601521a
open Go.RowKit Go.Deep

/-- what a running count of bytes tells -/
def Cnt (r : Int) : Prop := 0 ≤ r ∧ r ≤ 152043520

set_option maxHeartbeats 400000 in
theorem add23 (a b c : Int) (w : World) (ha : 0 ≤ a) (ha2 : a ≤ 152043520) (hb : 0 ≤ b) (hc : 0 ≤ c) (hc2 : c ≤ 144) :
    Calls Try.prog 23 #[.int .i64 a, .int .i64 b, .int .i64 c] w fun e w' => ∃ r, e = .returned (.int .i64 r) ∧ 0 ≤ r ∧ r ≤ 152043520 ∧ (r ≤ 1048576 → a ≤ 1048576 ∧ b ≤ 1048576) ∧ w' = w := by
  by_cases h1 : 1048576 < a
  · go_enter Try.func23, Try.ntmps23
    go_wp2
    go_ret
    exact ⟨_, rfl, by omega, by omega, fun h => by omega, rfl⟩
  by_cases h2 : 1048576 < b
  · go_enter Try.func23, Try.ntmps23
    go_wp2
    go_ret
    exact ⟨_, rfl, by omega, by omega, fun h => by omega, rfl⟩
  · have p1 : 0 ≤ b * c := Int.mul_nonneg hb hc
    have p2 : b * c ≤ 1048576 * 144 := Int.mul_le_mul (by omega) hc2 hc (by omega)
    have p2 : b * c ≤ 150994944 := p2
    generalize hbc : b * c = d at p1 p2
    have HD : Hid (b * c = d) := hbc
    have hbc' := hbc
    go_enter Try.func23, Try.ntmps23
    go_wp2
    go_ret
    exact ⟨_, rfl, by omega, by omega, rfl⟩

set_option maxRecDepth 100000 in
set_option maxHeartbeats 1000000 in
theorem msgsBytes10 (a : Option Addr) (n c : Nat) (M : Nat → Msg) (w : World) (hmx : n ≤ 9223372036854775807) (hM : HMsgs w a n M) (hMx : ∀ i, i < n → (M i).nc ≤ 9223372036854775807 ∧ (M i).nt ≤ 9223372036854775807 ∧ (M i).np ≤ 9223372036854775807) :
    Calls Try.prog 10 #[.slice a n c, .int .i64 0] w fun e w' => ∃ t : Int, e = .returned (.int .i64 t) ∧ Below w.heap.size w w' ∧ (t ≤ 1048576 → n ≤ 1048576 ∧ ∀ i, i < n → (M i).nc ≤ 1048576 ∧ (M i).nt ≤ 1048576 ∧ (M i).np ≤ 1048576) := by
  have HM : Hid (HMsgs w a n M ∧ ∀ i, i < n → (M i).nc ≤ 9223372036854775807 ∧ (M i).nt ≤ 9223372036854775807 ∧ (M i).np ≤ 9223372036854775807) := ⟨hM, hMx⟩
  clear hM hMx
  have C := add23 0 n 144 w (by omega) (by omega) (by omega) (by omega) (by omega)
  go_enter Try.func10, Try.ntmps10
  go_wp2_with fail
  refine C.mono ?_
  clear C
  rintro e w1 ⟨T0, rfl, hT1, hT2, hT3, rfl⟩
  go_wp2
  go_loopg [1, 5] n (fun gk t u wr => ∃ (i : Nat) (T : Int), i ≤ n ∧ n ≤ i + gk ∧ u = .int .i64 i ∧ t = .int .i64 T ∧ 0 ≤ T ∧ T ≤ 152043520 ∧ Below w1.heap.size w1 wr ∧ Hid (T ≤ 1048576 → n ≤ 1048576 ∧ ∀ j, j < i → (M j).nc ≤ 1048576 ∧ (M j).nt ≤ 1048576 ∧ (M j).np ≤ 1048576))
  case atStart => exact ⟨0, T0, Nat.zero_le _, by omega, rfl, rfl, hT1, hT2, Below.refl _ _, fun h => ⟨by have := hT3 h; omega, fun j hj => by omega⟩⟩
  case round =>
    obtain ⟨i, T, hi, hgk, rfl, rfl, hTa, hTb, hb, hH⟩ := hrel
    clear hT1 hT2 hT3
    by_cases hlt : i < n
    · by_cases hcap : 1048576 < T
      · go_wp2
        go_ret
        exact ⟨_, rfl, hb, fun h => by omega⟩
      · obtain ⟨b, o, rfl, hmsg⟩ := HM.out.1.2 (by omega)
        obtain ⟨s1, s7, ff, a2, c2, a5, c5, a6, c6, e0, e1, e2, e3, e4, e5, e6, e7, hcs, hc0, ht, hp⟩ := hmsg i hlt
        obtain ⟨x2, x5, x6⟩ := HM.out.2 i hlt
        have e0 := cell_ext (Nat.le_refl _) hb e0
        have e1 := cell_ext (Nat.le_refl _) hb e1
        have e2 := cell_ext (Nat.le_refl _) hb e2
        have e3 := cell_ext (Nat.le_refl _) hb e3
        have e4 := cell_ext (Nat.le_refl _) hb e4
        have e5 := cell_ext (Nat.le_refl _) hb e5
        have e6 := cell_ext (Nat.le_refl _) hb e6
        have e7 := cell_ext (Nat.le_refl _) hb e7
        go_upto_region 8 with (fail)
        have Z2 := (Below.refl wr.heap.size wr).alloc (Nat.le_refl _) (.cells #[.string (M i).role, .string s1, .slice a2 (M i).nc c2, .string (M i).tcid, .bool ff, .slice a5 (M i).nt c5, .slice a6 (M i).np c6, .string s7] 38)
        have hz2 : (wr.alloc (.cells #[.string (M i).role, .string s1, .slice a2 (M i).nc c2, .string (M i).tcid, .bool ff, .slice a5 (M i).nt c5, .slice a6 (M i).np c6, .string s7] 38)).heap.size = wr.heap.size + 1 := by simp
        have k0 : (wr.alloc (.cells #[.string (M i).role, .string s1, .slice a2 (M i).nc c2, .string (M i).tcid, .bool ff, .slice a5 (M i).nt c5, .slice a6 (M i).np c6, .string s7] 38)).cell? ⟨wr.heap.size, 0, none⟩ = some (.string (M i).role) := by simp
        have k1 : (wr.alloc (.cells #[.string (M i).role, .string s1, .slice a2 (M i).nc c2, .string (M i).tcid, .bool ff, .slice a5 (M i).nt c5, .slice a6 (M i).np c6, .string s7] 38)).cell? ⟨wr.heap.size, 1, none⟩ = some (.string s1) := by simp
        have k2 : (wr.alloc (.cells #[.string (M i).role, .string s1, .slice a2 (M i).nc c2, .string (M i).tcid, .bool ff, .slice a5 (M i).nt c5, .slice a6 (M i).np c6, .string s7] 38)).cell? ⟨wr.heap.size, 2, none⟩ = some (.slice a2 (M i).nc c2) := by simp
        have k3 : (wr.alloc (.cells #[.string (M i).role, .string s1, .slice a2 (M i).nc c2, .string (M i).tcid, .bool ff, .slice a5 (M i).nt c5, .slice a6 (M i).np c6, .string s7] 38)).cell? ⟨wr.heap.size, 3, none⟩ = some (.string (M i).tcid) := by simp
        have k5 : (wr.alloc (.cells #[.string (M i).role, .string s1, .slice a2 (M i).nc c2, .string (M i).tcid, .bool ff, .slice a5 (M i).nt c5, .slice a6 (M i).np c6, .string s7] 38)).cell? ⟨wr.heap.size, 5, none⟩ = some (.slice a5 (M i).nt c5) := by simp
        have k6 : (wr.alloc (.cells #[.string (M i).role, .string s1, .slice a2 (M i).nc c2, .string (M i).tcid, .bool ff, .slice a5 (M i).nt c5, .slice a6 (M i).np c6, .string s7] 38)).cell? ⟨wr.heap.size, 6, none⟩ = some (.slice a6 (M i).np c6) := by simp
        have k7 : (wr.alloc (.cells #[.string (M i).role, .string s1, .slice a2 (M i).nc c2, .string (M i).tcid, .bool ff, .slice a5 (M i).nt c5, .slice a6 (M i).np c6, .string s7] 38)).cell? ⟨wr.heap.size, 7, none⟩ = some (.string s7) := by simp
        generalize wr.alloc (.cells #[.string (M i).role, .string s1, .slice a2 (M i).nc c2, .string (M i).tcid, .bool ff, .slice a5 (M i).nt c5, .slice a6 (M i).np c6, .string s7] 38) = w2 at *
        have hb2 : Below w1.heap.size w1 w2 := hb.trans (Z2.mono hb.size)
        have HCS : Hid (CallsAt w1 a2 (M i).nc (M i).cid ∧ StrsAt w1 a5 (M i).nt 3 ∧ StrsAt w1 a6 (M i).np 2) := ⟨hcs, ht, hp⟩
        have hsz := hb.size
        clear Z2 hb e0 e1 e2 e3 e4 e5 e6 e7 hmsg hcs hc0 ht hp
        generalize wr.heap.size = X at *
        go_wp2_with fail
        have C := add23 T (M i).role.size 1 w2 (by omega) (by omega) (by omega) (by omega) (by omega)
        refine C.mono ?_; clear C
        rintro e w' ⟨T1, rfl, p1, p2, p3, rfl⟩
        go_wp2_with fail
        have C := add23 T1 s1.size 1 w' (by omega) (by omega) (by omega) (by omega) (by omega)
        refine C.mono ?_; clear C
        rintro e w' ⟨T2, rfl, q1, q2, q3, rfl⟩
        go_wp2_with fail
        have C := add23 T2 (M i).tcid.size 1 w' (by omega) (by omega) (by omega) (by omega) (by omega)
        refine C.mono ?_; clear C
        rintro e w' ⟨T3, rfl, r1, r2, r3, rfl⟩
        go_wp2_with fail
        have C := add23 T3 s7.size 1 w' (by omega) (by omega) (by omega) (by omega) (by omega)
        refine C.mono ?_; clear C
        rintro e w' ⟨T4, rfl, t1, t2, t3, rfl⟩
        go_wp2_with fail
        have C := add23 T4 (M i).nc 64 w' (by omega) (by omega) (by omega) (by omega) (by omega)
        refine C.mono ?_; clear C
        rintro e w' ⟨T5, rfl, v1, v2, v3, rfl⟩
        go_wp2_with fail
        have C := add23 T5 (M i).nt 48 w' (by omega) (by omega) (by omega) (by omega) (by omega)
        refine C.mono ?_; clear C
        rintro e w' ⟨T6, rfl, x1, xx2, x3, rfl⟩
        go_wp2_with fail
        have C := add23 T6 (M i).np 32 w' (by omega) (by omega) (by omega) (by omega) (by omega)
        refine C.mono ?_; clear C
        rintro e w' ⟨T7, rfl, y1, y2, y3, rfl⟩
        have HT : Hid (T7 ≤ 1048576 → n ≤ 1048576 ∧ ∀ j, j < i + 1 → (M j).nc ≤ 1048576 ∧ (M j).nt ≤ 1048576 ∧ (M j).np ≤ 1048576) := fun h => by
          obtain ⟨y4, y5⟩ := y3 h
          obtain ⟨x4, x5⟩ := x3 y4
          obtain ⟨v4, v5⟩ := v3 x4
          obtain ⟨t4, _⟩ := t3 v4
          obtain ⟨r4, _⟩ := r3 t4
          obtain ⟨q4, _⟩ := q3 r4
          obtain ⟨p4, _⟩ := p3 q4
          obtain ⟨h1, h2⟩ := hH.out p4
          exact ⟨h1, fun j hj => by
            by_cases e : j = i
            · subst e; omega
            · exact h2 j (by omega)⟩
        clear p1 p2 p3 q1 q2 q3 r1 r2 r3 t1 t2 t3 v1 v2 v3 x1 xx2 x3 y3 hH k0 k1 k3 k7 hcap
        go_upto_block 2 with (fail)
        go_cut [1] from 17 to 157 (fun t wc => ∃ T8 : Int, t = .int .i64 T8 ∧ 0 ≤ T8 ∧ T8 ≤ 152043520 ∧ Hid (T8 ≤ 1048576 → T7 ≤ 1048576) ∧ Below (X + 1) w' wc ∧ X < wc.heap.size)
        case first =>
          go_wp2_with fail
          go_loopg [1, 7] (M i).nc (fun gk t u wz => ∃ (j : Nat) (T8 : Int), j ≤ (M i).nc ∧ (M i).nc ≤ j + gk ∧ u = .int .i64 j ∧ t = .int .i64 T8 ∧ 0 ≤ T8 ∧ T8 ≤ 152043520 ∧ Hid (T8 ≤ 1048576 → T7 ≤ 1048576) ∧ Below (X + 1) w' wz ∧ X < wz.heap.size)
          case atStart => exact ⟨0, T7, Nat.zero_le _, by omega, rfl, rfl, y1, y2, (fun h => h), Below.refl _ _, by omega⟩
          case round =>
            obtain ⟨j, T8, hj, hgj, rfl, rfl, hTc, hTd, hH8, hbz, hzz⟩ := hrel
            have kk := (hbz.cell (p := ⟨X, 2, none⟩) (by show X < X + 1; omega)).trans k2
            by_cases hlj : j < (M i).nc
            · by_cases hc8 : T8 ≤ 1048576
              · obtain ⟨b2, o2, rfl, hcc⟩ := (HCS.out.1.ext (Nat.le_refl _) (hb2.trans (hbz.mono (by omega)))) (by omega)
                obtain ⟨r1, r2, r3, g0, g1, g2, g3⟩ := hcc j hlj
                have l0 : (wr.alloc (.cells #[.string ((M i).cid j), .string r1, .string r2, .string r3] 52)).cell? ⟨wr.heap.size, 0, none⟩ = some (.string ((M i).cid j)) := by simp
                have l1 : (wr.alloc (.cells #[.string ((M i).cid j), .string r1, .string r2, .string r3] 52)).cell? ⟨wr.heap.size, 1, none⟩ = some (.string r1) := by simp
                have l2 : (wr.alloc (.cells #[.string ((M i).cid j), .string r1, .string r2, .string r3] 52)).cell? ⟨wr.heap.size, 2, none⟩ = some (.string r2) := by simp
                have l3 : (wr.alloc (.cells #[.string ((M i).cid j), .string r1, .string r2, .string r3] 52)).cell? ⟨wr.heap.size, 3, none⟩ = some (.string r3) := by simp
                have hba := hbz.alloc (show X + 1 ≤ wr.heap.size by omega) (.cells #[.string ((M i).cid j), .string r1, .string r2, .string r3] 52)
                have hza : (wr.alloc (.cells #[.string ((M i).cid j), .string r1, .string r2, .string r3] 52)).heap.size = wr.heap.size + 1 := by simp
                clear hcc
                go_upto_region 19 with (fail)
                generalize wr.alloc (.cells #[.string ((M i).cid j), .string r1, .string r2, .string r3] 52) = wa at *
                go_wp2_with fail
                have C := add23 T8 ((M i).cid j).size 1 wa (by omega) (by omega) (by omega) (by omega) (by omega)
                refine C.mono ?_; clear C
                rintro e wa ⟨A1, rfl, a1, a2, a3, rfl⟩
                go_wp2_with fail
                have C := add23 A1 r1.size 1 wa (by omega) (by omega) (by omega) (by omega) (by omega)
                refine C.mono ?_; clear C
                rintro e wa ⟨A2, rfl, b1, b2', b3, rfl⟩
                go_wp2_with fail
                have C := add23 A2 r2.size 1 wa (by omega) (by omega) (by omega) (by omega) (by omega)
                refine C.mono ?_; clear C
                rintro e wa ⟨A3, rfl, d1, d2, d3, rfl⟩
                go_wp2_with fail
                have C := add23 A3 r3.size 1 wa (by omega) (by omega) (by omega) (by omega) (by omega)
                refine C.mono ?_; clear C
                rintro e wa ⟨A4, rfl, f1, f2, f3, rfl⟩
                have HA : Hid (A4 ≤ 1048576 → T7 ≤ 1048576) := fun h => hH8.out (a3 (b3 (d3 (f3 h).1).1).1).1
                clear a3 b3 d3 f3 hH8
                go_wp2
                go_roundg ((M i).nc - (j + 1))
                case measure => omega
                case rel => exact ⟨j + 1, A4, by omega, by omega, by go_num, rfl, f1, f2, HA, hba, by omega⟩
              · have hd : decide (T8 ≤ 1048576) = false := by simpa using hc8
                go_wp2
                go_meet
                case rel => exact ⟨T8, rfl, hTc, hTd, hH8, hbz, hzz⟩
            · have hd : decide ((j : Int) < ((M i).nc : Int)) = false := by simp; omega
              go_wp2
              go_meet
              case rel => exact ⟨T8, rfl, hTc, hTd, hH8, hbz, hzz⟩
        case rest =>
          obtain ⟨T8, rfl, z1, z2, HT8, hb3, hz3⟩ := hcut
          obtain ⟨w3, rfl⟩ : ∃ w3, w3 = wc := ⟨_, rfl⟩
          have k5' := (hb3.cell (p := ⟨X, 5, none⟩) (by show X < X + 1; omega)).trans k5
          have k6' := (hb3.cell (p := ⟨X, 6, none⟩) (by show X < X + 1; omega)).trans k6
          have hbw3 : Below w1.heap.size w1 w3 := hb2.trans (hb3.mono (by omega))
          clear k5 k6 k2 hb2 hb3
          go_upto_block 4 with (fail)
          go_cut [1] from 17 to 157 (fun t wc => ∃ TV : Int, t = .int .i64 TV ∧ 0 ≤ TV ∧ TV ≤ 152043520 ∧ Hid (TV ≤ 1048576 → T8 ≤ 1048576) ∧ Below (X + 1) w3 wc ∧ X < wc.heap.size)
          case first =>
            go_wp2_with fail
            go_loopg [1, 9] (M i).nt (fun gk t u wz => ∃ (j : Nat) (TV : Int), j ≤ (M i).nt ∧ (M i).nt ≤ j + gk ∧ u = .int .i64 j ∧ t = .int .i64 TV ∧ 0 ≤ TV ∧ TV ≤ 152043520 ∧ Hid (TV ≤ 1048576 → T8 ≤ 1048576) ∧ Below (X + 1) w3 wz ∧ X < wz.heap.size)
            case atStart => exact ⟨0, T8, Nat.zero_le _, by omega, rfl, rfl, z1, z2, (fun h => h), Below.refl _ _, by omega⟩
            case round =>
              obtain ⟨j, TV, hj, hgj, rfl, rfl, hTc, hTd, hH8, hbz, hzz⟩ := hrel
              have kk := (hbz.cell (p := ⟨X, 5, none⟩) (by show X < X + 1; omega)).trans k5'
              by_cases hlj : j < (M i).nt
              · by_cases hc8 : TV ≤ 1048576
                · obtain ⟨b2, o2, rfl, hcc⟩ := (HCS.out.2.1.ext (Nat.le_refl _) (hbw3.trans (hbz.mono (by omega)))).2 (by omega)
                  obtain ⟨r0, g0⟩ := hcc j hlj 0 (by omega)
                  rw [Nat.add_zero] at g0
                  obtain ⟨r1, g1⟩ := hcc j hlj 1 (by omega)
                  obtain ⟨r2, g2⟩ := hcc j hlj 2 (by omega)
                  have l0 : (wr.alloc (.cells #[.string r0, .string r1, .string r2] 54)).cell? ⟨wr.heap.size, 0, none⟩ = some (.string r0) := by simp
                  have l1 : (wr.alloc (.cells #[.string r0, .string r1, .string r2] 54)).cell? ⟨wr.heap.size, 1, none⟩ = some (.string r1) := by simp
                  have l2 : (wr.alloc (.cells #[.string r0, .string r1, .string r2] 54)).cell? ⟨wr.heap.size, 2, none⟩ = some (.string r2) := by simp
                  have hba := hbz.alloc (show X + 1 ≤ wr.heap.size by omega) (.cells #[.string r0, .string r1, .string r2] 54)
                  have hza : (wr.alloc (.cells #[.string r0, .string r1, .string r2] 54)).heap.size = wr.heap.size + 1 := by simp
                  clear hcc
                  go_upto_region 27 with (fail)
                  generalize wr.alloc (.cells #[.string r0, .string r1, .string r2] 54) = wa at *
                  go_wp2_with fail
                  have C := add23 TV r0.size 1 wa (by omega) (by omega) (by omega) (by omega) (by omega)
                  refine C.mono ?_; clear C
                  rintro e wa ⟨A0, rfl, a01, a02, a03, rfl⟩
                  go_wp2_with fail
                  have C := add23 A0 r1.size 1 wa (by omega) (by omega) (by omega) (by omega) (by omega)
                  refine C.mono ?_; clear C
                  rintro e wa ⟨A1, rfl, a11, a12, a13, rfl⟩
                  go_wp2_with fail
                  have C := add23 A1 r2.size 1 wa (by omega) (by omega) (by omega) (by omega) (by omega)
                  refine C.mono ?_; clear C
                  rintro e wa ⟨A2, rfl, a21, a22, a23, rfl⟩
                  have HA : Hid (A2 ≤ 1048576 → T8 ≤ 1048576) := fun h => hH8.out (a03 (a13 (a23 h).1).1).1
                  clear a03 a13 a23 hH8
                  go_wp2
                  go_roundg ((M i).nt - (j + 1))
                  case measure => omega
                  case rel => exact ⟨j + 1, A2, by omega, by omega, by go_num, rfl, a21, a22, HA, hba, by omega⟩
                · have hd : decide (TV ≤ 1048576) = false := by simpa using hc8
                  go_wp2
                  go_meet
                  case rel => exact ⟨TV, rfl, hTc, hTd, hH8, hbz, hzz⟩
              · have hd : decide ((j : Int) < ((M i).nt : Int)) = false := by simp; omega
                go_wp2
                go_meet
                case rel => exact ⟨TV, rfl, hTc, hTd, hH8, hbz, hzz⟩
          case rest =>

            obtain ⟨T9, rfl, y3, y4, HT9, hb4, hz4⟩ := hcut
            obtain ⟨w4, rfl⟩ : ∃ w4, w4 = wc := ⟨_, rfl⟩
            have k6'' := (hb4.cell (p := ⟨X, 6, none⟩) (by show X < X + 1; omega)).trans k6'
            have hbw4 : Below w1.heap.size w1 w4 := hbw3.trans (hb4.mono (by omega))
            clear k5' k6' hbw3 hb4
            go_wp2_with fail
            go_loopg [1, 11] (M i).np (fun gk t u wz => ∃ (j : Nat) (TV : Int), j ≤ (M i).np ∧ (M i).np ≤ j + gk ∧ u = .int .i64 j ∧ t = .int .i64 TV ∧ 0 ≤ TV ∧ TV ≤ 152043520 ∧ Hid (TV ≤ 1048576 → T9 ≤ 1048576) ∧ Below (X + 1) w4 wz ∧ X < wz.heap.size)
            case atStart => exact ⟨0, T9, Nat.zero_le _, by omega, rfl, rfl, y3, y4, (fun h => h), Below.refl _ _, by omega⟩
            case round =>
              obtain ⟨j, TV, hj, hgj, rfl, rfl, hTc, hTd, hH8, hbz, hzz⟩ := hrel
              have kk := (hbz.cell (p := ⟨X, 6, none⟩) (by show X < X + 1; omega)).trans k6''
              by_cases hlj : j < (M i).np
              · by_cases hc8 : TV ≤ 1048576
                · obtain ⟨b2, o2, rfl, hcc⟩ := (HCS.out.2.2.ext (Nat.le_refl _) (hbw4.trans (hbz.mono (by omega)))).2 (by omega)
                  obtain ⟨r0, g0⟩ := hcc j hlj 0 (by omega)
                  rw [Nat.add_zero] at g0
                  obtain ⟨r1, g1⟩ := hcc j hlj 1 (by omega)
                  have l0 : (wr.alloc (.cells #[.string r0, .string r1] 56)).cell? ⟨wr.heap.size, 0, none⟩ = some (.string r0) := by simp
                  have l1 : (wr.alloc (.cells #[.string r0, .string r1] 56)).cell? ⟨wr.heap.size, 1, none⟩ = some (.string r1) := by simp
                  have hba := hbz.alloc (show X + 1 ≤ wr.heap.size by omega) (.cells #[.string r0, .string r1] 56)
                  have hza : (wr.alloc (.cells #[.string r0, .string r1] 56)).heap.size = wr.heap.size + 1 := by simp
                  clear hcc
                  go_upto_region 34 with (fail)
                  generalize wr.alloc (.cells #[.string r0, .string r1] 56) = wa at *
                  go_wp2_with fail
                  have C := add23 TV r0.size 1 wa (by omega) (by omega) (by omega) (by omega) (by omega)
                  refine C.mono ?_; clear C
                  rintro e wa ⟨A0, rfl, a01, a02, a03, rfl⟩
                  go_wp2_with fail
                  have C := add23 A0 r1.size 1 wa (by omega) (by omega) (by omega) (by omega) (by omega)
                  refine C.mono ?_; clear C
                  rintro e wa ⟨A1, rfl, a11, a12, a13, rfl⟩
                  have HA : Hid (A1 ≤ 1048576 → T9 ≤ 1048576) := fun h => hH8.out (a03 (a13 h).1).1
                  clear a03 a13 hH8
                  go_wp2
                  go_roundg ((M i).np - (j + 1))
                  case measure => omega
                  case rel => exact ⟨j + 1, A1, by omega, by omega, by go_num, rfl, a11, a12, HA, hba, by omega⟩
                · have hd : decide (TV ≤ 1048576) = false := by simpa using hc8
                  have HF : Hid (TV ≤ 1048576 → n ≤ 1048576 ∧ ∀ j, j < i + 1 → (M j).nc ≤ 1048576 ∧ (M j).nt ≤ 1048576 ∧ (M j).np ≤ 1048576) := fun h => HT.out (HT8.out (HT9.out (hH8.out h)))
                  have hbw5 : Below w1.heap.size w1 wr := hbw4.trans (hbz.mono (by omega))
                  go_wp2
                  go_roundg (n - (i + 1))
                  case measure => omega
                  case rel => exact ⟨i + 1, TV, by omega, by omega, by go_num, rfl, hTc, hTd, hbw5, HF⟩
              · have hd : decide ((j : Int) < ((M i).np : Int)) = false := by simp; omega
                have HF : Hid (TV ≤ 1048576 → n ≤ 1048576 ∧ ∀ j, j < i + 1 → (M j).nc ≤ 1048576 ∧ (M j).nt ≤ 1048576 ∧ (M j).np ≤ 1048576) := fun h => HT.out (HT8.out (HT9.out (hH8.out h)))
                have hbw5 : Below w1.heap.size w1 wr := hbw4.trans (hbz.mono (by omega))
                go_wp2
                go_roundg (n - (i + 1))
                case measure => omega
                case rel => exact ⟨i + 1, TV, by omega, by omega, by go_num, rfl, hTc, hTd, hbw5, HF⟩
    · go_wp2
      go_ret
      exact ⟨_, rfl, hb, fun h => ⟨(hH.out h).1, fun j hj => (hH.out h).2 j (by omega)⟩⟩

end Go.Proofs.Qxb6601521a
