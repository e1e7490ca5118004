/-
  The contract of zzToMessages: the walk.
-/
import Derived.Test.Qxb6601521aHistE
namespace Go.Proofs.Qxb6601521a
open Go.RowKit Go.Deep

theorem CallsAt.store {w : World} {G p : Nat} {v : Value} {a : Option Addr} {n : Nat} {cid : Nat → ByteArray} (h : CallsAt w a n cid) (hx : 0 < n → ∃ b, a = some ⟨b, 0, none⟩ ∧ b ≠ G) : CallsAt (w.setCell ⟨G, p, none⟩ v) a n cid := fun hn => by
  obtain ⟨b, o, ha, hcc⟩ := h hn
  obtain ⟨b', hb1, hb2⟩ := hx hn
  have hbb : b = b' := by rw [ha] at hb1; injection hb1 with e; injection e
  have k2 : ∀ q u, w.cell? ⟨b, q, none⟩ = some u → (w.setCell ⟨G, p, none⟩ v).cell? ⟨b, q, none⟩ = some u := fun q u e => by
    have hne : (⟨G, p, none⟩ : Addr) ≠ ⟨b, q, none⟩ := by intro e; injection e with e1 _; exact hb2 (by rw [e1]; exact hbb.symm)
    rw [World.cell?_setCell_other w _ _ _ hne]; exact e
  refine ⟨b, o, ha, fun j hj => ?_⟩
  obtain ⟨s1, s2, s3, q0, q1, q2, q3⟩ := hcc j hj
  exact ⟨s1, s2, s3, k2 _ _ q0, k2 _ _ q1, k2 _ _ q2, k2 _ _ q3⟩

/-- a whole message stored -/
theorem msgX_put {w : World} {G N p : Nat} {f : Nat → Value} {m : Msg} {s1 s7 : ByteArray} {ff : Bool} {ca ta pa : Option Addr} {cc tn tc pn pc : Nat} (hR : w.rowIs G 73 N f) (hp : p + 8 ≤ N)
    (hx : 0 < m.nc → ∃ b, ca = some ⟨b, 0, none⟩ ∧ b ≠ G) (hc : CallsAt w ca m.nc m.cid) :
    MsgX ((((((((w.setCell ⟨G, p, none⟩ (.string m.role)).setCell ⟨G, p + 1, none⟩ (.string s1)).setCell ⟨G, p + 2, none⟩ (.slice ca m.nc cc)).setCell ⟨G, p + 3, none⟩ (.string m.tcid)).setCell ⟨G, p + 4, none⟩ (.bool ff)).setCell ⟨G, p + 5, none⟩ (.slice ta tn tc)).setCell ⟨G, p + 6, none⟩ (.slice pa pn pc)).setCell ⟨G, p + 7, none⟩ (.string s7)) G p m := by
  have R := (((((((hR.set p (.string m.role)).set (p + 1) (.string s1)).set (p + 2) (.slice ca m.nc cc)).set (p + 3) (.string m.tcid)).set (p + 4) (.bool ff)).set (p + 5) (.slice ta tn tc)).set (p + 6) (.slice pa pn pc)).set (p + 7) (.string s7)
  refine ⟨s1, s7, ff, ca, cc, ta, tn, tc, pa, pn, pc, ?_, ?_, ?_, ?_, ?_, ?_, ?_, ?_, hx, (((((((hc.store hx).store hx).store hx).store hx).store hx).store hx).store hx).store hx⟩
  · rw [R.cell (by omega)]; simp
  · rw [R.cell (by omega)]; simp
  · rw [R.cell (by omega)]; simp
  · rw [R.cell (by omega)]; simp
  · rw [R.cell (by omega)]; simp
  · rw [R.cell (by omega)]; simp
  · rw [R.cell (by omega)]; simp
  · rw [R.cell (by omega)]; simp

set_option maxRecDepth 100000 in
set_option maxHeartbeats 2000000 in
theorem toMsgs13 (a : Option Addr) (n c : Nat) (M : Nat → Msg) (w : World) (hn : n ≤ 1048576) (hbd : ∀ i, i < n → (M i).nc ≤ 1048576 ∧ (M i).nt ≤ 1048576 ∧ (M i).np ≤ 1048576) (hM : HMsgs w a n M) :
    Calls Try.prog 13 #[.slice a n c] w fun e w' => ∃ a', e = .returned (.slice a' n n) ∧ Below w.heap.size w w' ∧ Msgs w' a' n M := by
  have e22 := fun w a n c n' c' => Lib.run_eql_slice_nil (P := Try.prog) w 22 _ a n c n' c' Try.underlying22
  have HB : Hid (∀ i, i < n → (M i).nc ≤ 1048576 ∧ (M i).nt ≤ 1048576 ∧ (M i).np ≤ 1048576) := hbd
  clear hbd
  rcases a with _ | x
  · have h0 := hM.1 rfl
    subst h0
    clear hM
    go_enter Try.func13, Try.ntmps13
    go_wp2
    go_ret
    exact ⟨_, rfl, Below.refl _ _, fun h => by omega⟩
  · have hmk := run_makeS 29 73 zmsg 8 144 Try.underlying29 Try.info73 (by omega) n hn
    have R1 : ∃ f, (w.alloc (.cells (madeCells zmsg (n * 8)) 73)).rowIs w.heap.size 73 (n * 8) f := by
      have h := World.rowIs_alloc w (madeCells zmsg (n * 8)) 73 (fun i => (madeCells zmsg (n * 8))[i]?.getD undef) (fun i hi => by simp [hi])
      rw [size_madeCells] at h
      exact ⟨_, h⟩
    have B1 := (Below.refl w.heap.size w).alloc (Nat.le_refl _) (.cells (madeCells zmsg (n * 8)) 73)
    have hM' := hM.2
    have HM : Hid (0 < n → ∃ b o, some x = some ⟨b, o, none⟩ ∧ ∀ i, i < n → HMsgAt w b (o + i * 8) (M i)) := hM'
    clear hM hM'
    go_enter Try.func13, Try.ntmps13
    go_upto_region 4 with (fail)
    generalize w.alloc (.cells (madeCells zmsg (n * 8)) 73) = w1 at *
    clear hmk e22
    go_wp2
    go_loopg [4] n (fun gk t wr => ∃ i : Nat, i ≤ n ∧ n ≤ i + gk ∧ t = .int .i64 i ∧ Below w.heap.size w wr ∧ (∃ f, wr.rowIs w.heap.size 73 (n * 8) f) ∧ Hid (∀ j, j < i → MsgX wr w.heap.size (j * 8) (M j)))
    case atStart => exact ⟨0, Nat.zero_le _, by omega, rfl, B1, R1, fun j hj => by omega⟩
    case round =>
      obtain ⟨i, hi, hgk, rfl, hb, ⟨f0, hR⟩, hX⟩ := hrel
      by_cases hlt : i < n
      · obtain ⟨b, o, ha, hmsg⟩ := HM.out (by omega)
        obtain rfl : x = ⟨b, o, none⟩ := by injection ha
        obtain ⟨s1, s7, ff, a2, c2, a5, c5, a6, c6, e0, e1, e2, e3, e4, e5, e6, e7, hcs, hc0, ht, hp⟩ := hmsg i hlt
        have e0 := cell_ext (Nat.le_refl _) hb e0
        have e1 := cell_ext (Nat.le_refl _) hb e1
        have e2 := cell_ext (Nat.le_refl _) hb e2
        have e3 := cell_ext (Nat.le_refl _) hb e3
        have e4 := cell_ext (Nat.le_refl _) hb e4
        have e5 := cell_ext (Nat.le_refl _) hb e5
        have e6 := cell_ext (Nat.le_refl _) hb e6
        have e7 := cell_ext (Nat.le_refl _) hb e7
        go_upto_region 9 with (fail)
        have Z2 := (Below.refl wr.heap.size wr).alloc (Nat.le_refl _) (.cells #[.string (M i).role, .string s1, .slice a2 (M i).nc c2, .string (M i).tcid, .bool ff, .slice a5 (M i).nt c5, .slice a6 (M i).np c6, .string s7] 38)
        have hz2 : (wr.alloc (.cells #[.string (M i).role, .string s1, .slice a2 (M i).nc c2, .string (M i).tcid, .bool ff, .slice a5 (M i).nt c5, .slice a6 (M i).np c6, .string s7] 38)).heap.size = wr.heap.size + 1 := by simp
        have k0 : (wr.alloc (.cells #[.string (M i).role, .string s1, .slice a2 (M i).nc c2, .string (M i).tcid, .bool ff, .slice a5 (M i).nt c5, .slice a6 (M i).np c6, .string s7] 38)).cell? ⟨wr.heap.size, 0, none⟩ = some (.string (M i).role) := by simp
        have k1 : (wr.alloc (.cells #[.string (M i).role, .string s1, .slice a2 (M i).nc c2, .string (M i).tcid, .bool ff, .slice a5 (M i).nt c5, .slice a6 (M i).np c6, .string s7] 38)).cell? ⟨wr.heap.size, 1, none⟩ = some (.string s1) := by simp
        have k2 : (wr.alloc (.cells #[.string (M i).role, .string s1, .slice a2 (M i).nc c2, .string (M i).tcid, .bool ff, .slice a5 (M i).nt c5, .slice a6 (M i).np c6, .string s7] 38)).cell? ⟨wr.heap.size, 2, none⟩ = some (.slice a2 (M i).nc c2) := by simp
        have k3 : (wr.alloc (.cells #[.string (M i).role, .string s1, .slice a2 (M i).nc c2, .string (M i).tcid, .bool ff, .slice a5 (M i).nt c5, .slice a6 (M i).np c6, .string s7] 38)).cell? ⟨wr.heap.size, 3, none⟩ = some (.string (M i).tcid) := by simp
        have k4 : (wr.alloc (.cells #[.string (M i).role, .string s1, .slice a2 (M i).nc c2, .string (M i).tcid, .bool ff, .slice a5 (M i).nt c5, .slice a6 (M i).np c6, .string s7] 38)).cell? ⟨wr.heap.size, 4, none⟩ = some (.bool ff) := by simp
        have k5 : (wr.alloc (.cells #[.string (M i).role, .string s1, .slice a2 (M i).nc c2, .string (M i).tcid, .bool ff, .slice a5 (M i).nt c5, .slice a6 (M i).np c6, .string s7] 38)).cell? ⟨wr.heap.size, 5, none⟩ = some (.slice a5 (M i).nt c5) := by simp
        have k6 : (wr.alloc (.cells #[.string (M i).role, .string s1, .slice a2 (M i).nc c2, .string (M i).tcid, .bool ff, .slice a5 (M i).nt c5, .slice a6 (M i).np c6, .string s7] 38)).cell? ⟨wr.heap.size, 6, none⟩ = some (.slice a6 (M i).np c6) := by simp
        have k7 : (wr.alloc (.cells #[.string (M i).role, .string s1, .slice a2 (M i).nc c2, .string (M i).tcid, .bool ff, .slice a5 (M i).nt c5, .slice a6 (M i).np c6, .string s7] 38)).cell? ⟨wr.heap.size, 7, none⟩ = some (.string s7) := by simp
        generalize wr.alloc (.cells #[.string (M i).role, .string s1, .slice a2 (M i).nc c2, .string (M i).tcid, .bool ff, .slice a5 (M i).nt c5, .slice a6 (M i).np c6, .string s7] 38) = w2 at *
        have hb2 : Below w.heap.size w w2 := hb.trans (Z2.mono hb.size)
        have hR2 := row_ext hR Z2 hR.lt
        have hX2 : Hid (∀ j, j < i → MsgX w2 w.heap.size (j * 8) (M j)) := fun j hj => (hX.out j hj).ext (Nat.le_refl _) Z2
        have hGl := hR.lt
        clear Z2 hX hR e0 e1 e2 e3 e4 e5 e6 e7 hmsg ha
        obtain ⟨hn2, hn5, hn6⟩ := HB.out i hlt
        have HCS : Hid (CallsAt w a2 (M i).nc (M i).cid ∧ (a2 = none → (M i).nc = 0) ∧ StrsAt w a5 (M i).nt 3 ∧ StrsAt w a6 (M i).np 2) := ⟨hcs, hc0, ht, hp⟩
        clear hcs hc0 ht hp
        generalize wr.heap.size = X at *
        clear hb
        have e34 := fun w a n c n' c' => run_neq_slice_nil_any (P := Try.prog) w 34 _ a n c n' c' Try.underlying34
        have e35 := fun w a n c n' c' => run_neq_slice_nil_any (P := Try.prog) w 35 _ a n c n' c' Try.underlying35
        have e36 := fun w a n c n' c' => run_neq_slice_nil_any (P := Try.prog) w 36 _ a n c n' c' Try.underlying36
        go_upto_if 32 with (fail)
        go_cut [6] from 20 to 133 (fun s6 wc => ∃ ca cc, s6 = .slice ca (M i).nc cc ∧ Below (X + 1) w2 wc ∧ X < wc.heap.size ∧ (0 < (M i).nc → ∃ b, ca = some ⟨b, 0, none⟩ ∧ X < b) ∧ CallsAt wc ca (M i).nc (M i).cid)
        case first =>
          obtain ⟨hcs, hc0, _, _⟩ := HCS.out
          rcases a2 with _ | y
          · have hz := hc0 rfl
            go_wp2
            go_meet
            case rel => exact ⟨none, 0, by rw [hz], Below.refl _ _, by omega, fun h => by omega, fun h => by omega⟩
          · have hmk := run_makeS 62 64 #[.string es, .string es, .string es, .string es] 4 64 Try.underlying62 Try.info64 (by omega) (M i).nc hn2
            have M4 := madeS4 w2 (M i).nc
            have B4 := (Below.refl w2.heap.size w2).alloc (Nat.le_refl _) (.cells (madeCells #[.string es, .string es, .string es, .string es] ((M i).nc * 4)) 64)
            rw [hz2] at M4 B4
            go_upto_region 11 with (fail)
            generalize w2.alloc (.cells (madeCells #[.string es, .string es, .string es, .string es] ((M i).nc * 4)) 64) = w3 at *
            clear hmk
            obtain ⟨S, hS⟩ : ∃ S : Nat → Nat → ByteArray, Hid (0 < (M i).nc → ∃ b o, y = ⟨b, o, none⟩ ∧ ∀ j, j < (M i).nc → S j 0 = (M i).cid j ∧ ∀ c, c < 4 → w.cell? ⟨b, o + j * 4 + c, none⟩ = some (.string (S j c))) := by
              by_cases h0 : 0 < (M i).nc
              · obtain ⟨b, o, S, h1, h2⟩ := hcs.fn h0
                injection h1 with h1
                exact ⟨S, fun _ => ⟨b, o, h1, h2⟩⟩
              · exact ⟨fun _ _ => es, fun h => absurd h h0⟩
            clear hcs hc0
            go_wp2
            go_loopg [7] (M i).nc (fun gk t wz => ∃ j : Nat, j ≤ (M i).nc ∧ (M i).nc ≤ j + gk ∧ t = .int .i64 j ∧ Below (X + 1) w2 wz ∧ X + 1 < wz.heap.size ∧ wz.rowIs (X + 1) 64 ((M i).nc * 4) (srow 4 fun p => if p < j then S p else fun _ => es))
            case atStart => exact ⟨0, Nat.zero_le _, by omega, rfl, B4, M4.lt, by simpa using M4⟩
            case round =>
              obtain ⟨j, hj, hgj, rfl, hbz, hzz, hRz⟩ := hrel
              have hbw : Below w.heap.size w wr := hb2.trans (hbz.mono (by omega))
              have kk := (hbz.cell (p := ⟨X, 2, none⟩) (by show X < X + 1; omega)).trans k2
              by_cases hlj : j < (M i).nc
              · obtain ⟨b2, o2, rfl, hSS⟩ := hS.out (by omega)
                have hSj := hSS j hlj
                have g0 := cell_ext (Nat.le_refl _) hbw (hSj.2 0 (by omega))
                rw [Nat.add_zero] at g0
                have g1 := cell_ext (Nat.le_refl _) hbw (hSj.2 1 (by omega))
                have g2 := cell_ext (Nat.le_refl _) hbw (hSj.2 2 (by omega))
                have g3 := cell_ext (Nat.le_refl _) hbw (hSj.2 3 (by omega))
                have hba := hbz.alloc (show X + 1 ≤ wr.heap.size by omega) (.cells #[.string (S j 0), .string (S j 1), .string (S j 2), .string (S j 3)] 52)
                have hRa := hRz.alloc (.cells #[.string (S j 0), .string (S j 1), .string (S j 2), .string (S j 3)] 52)
                have q0 := hRa.cell (i := j * 4) (by omega)
                have z0 := hRa.frozen (j * 4)
                have q1 := hRa.cell (i := j * 4 + 1) (by omega)
                have z1 := hRa.frozen (j * 4 + 1)
                have q2 := hRa.cell (i := j * 4 + 2) (by omega)
                have z2 := hRa.frozen (j * 4 + 2)
                have q3 := hRa.cell (i := j * 4 + 3) (by omega)
                have z3 := hRa.frozen (j * 4 + 3)
                have RP := srow_put4 hRa j (S j)
                have l0 : (wr.alloc (.cells #[.string (S j 0), .string (S j 1), .string (S j 2), .string (S j 3)] 52)).cell? ⟨wr.heap.size, 0, none⟩ = some (.string (S j 0)) := by simp
                have l1 : (wr.alloc (.cells #[.string (S j 0), .string (S j 1), .string (S j 2), .string (S j 3)] 52)).cell? ⟨wr.heap.size, 1, none⟩ = some (.string (S j 1)) := by simp
                have l2 : (wr.alloc (.cells #[.string (S j 0), .string (S j 1), .string (S j 2), .string (S j 3)] 52)).cell? ⟨wr.heap.size, 2, none⟩ = some (.string (S j 2)) := by simp
                have l3 : (wr.alloc (.cells #[.string (S j 0), .string (S j 1), .string (S j 2), .string (S j 3)] 52)).cell? ⟨wr.heap.size, 3, none⟩ = some (.string (S j 3)) := by simp
                have hza : (wr.alloc (.cells #[.string (S j 0), .string (S j 1), .string (S j 2), .string (S j 3)] 52)).heap.size = wr.heap.size + 1 := by simp
                clear hSS hSj
                go_upto_region 15 with (fail)
                generalize wr.alloc (.cells #[.string (S j 0), .string (S j 1), .string (S j 2), .string (S j 3)] 52) = wa at *
                go_wp2
                go_roundg ((M i).nc - (j + 1))
                case measure => omega
                case rel =>
                  refine ⟨j + 1, by omega, by omega, by go_num, ((((hba.setCell (by show X + 1 ≤ X + 1; omega) _).setCell (by show X + 1 ≤ X + 1; omega) _).setCell (by show X + 1 ≤ X + 1; omega) _).setCell (by show X + 1 ≤ X + 1; omega) _), by simp; omega, RP.congr fun o _ => srow_step 4 j S o⟩
              · go_wp2
                go_meet
                case rel =>
                  refine ⟨some ⟨X + 1, 0, none⟩, (M i).nc, rfl, hbz, by omega, fun _ => ⟨X + 1, rfl, by omega⟩, fun h => ⟨X + 1, 0, rfl, fun t ht => ?_⟩⟩
                  obtain ⟨b2, o2, _, hSS⟩ := hS.out (by omega)
                  have hlt2 : t < j := by omega
                  have hcell : ∀ c, c < 4 → wr.cell? ⟨X + 1, 0 + t * 4 + c, none⟩ = some (.string (S t c)) := fun c hc => by
                    rw [Nat.zero_add, hRz.cell (i := t * 4 + c) (by omega)]
                    have q1 : (t * 4 + c) / 4 = t := by omega
                    have q2 : (t * 4 + c) % 4 = c := by omega
                    simp [srow, q1, q2, hlt2]
                  refine ⟨S t 1, S t 2, S t 3, ?_, hcell 1 (by omega), hcell 2 (by omega), hcell 3 (by omega)⟩
                  rw [← (hSS t ht).1]
                  exact hcell 0 (by omega)
        case rest =>
          obtain ⟨ca, cc, rfl, hb3, hz3, hca, hcs3⟩ := hcut
          obtain ⟨w3, rfl⟩ : ∃ w3, w3 = wc := ⟨_, rfl⟩
          have k5' := (hb3.cell (p := ⟨X, 5, none⟩) (by show X < X + 1; omega)).trans k5
          have hbw3 : Below w.heap.size w w3 := hb2.trans (hb3.mono (by omega))
          go_upto_if 63 with (fail)
          go_cut [9] from 20 to 133 (fun s9 wc => ∃ ta tn tc, s9 = .slice ta tn tc ∧ Below w3.heap.size w3 wc)
          case first =>
            obtain ⟨_, _, ht, _⟩ := HCS.out
            rcases a5 with _ | y
            · have hz := ht.1 rfl
              go_wp2
              go_meet
              case rel => exact ⟨none, 0, 0, rfl, Below.refl _ _⟩
            · have hmk := run_makeS 65 67 #[.string es, .string es, .string es] 3 48 Try.underlying65 Try.info67 (by omega) (M i).nt hn5
              have M5 := madeS3 w3 (M i).nt
              have B5 := (Below.refl w3.heap.size w3).alloc (Nat.le_refl _) (.cells (madeCells #[.string es, .string es, .string es] ((M i).nt * 3)) 67)
              go_upto_region 19 with (fail)
              generalize w3.alloc (.cells (madeCells #[.string es, .string es, .string es] ((M i).nt * 3)) 67) = w4 at *
              clear hmk
              obtain ⟨S, hS⟩ : ∃ S : Nat → Nat → ByteArray, Hid (0 < (M i).nt → ∃ b o, y = ⟨b, o, none⟩ ∧ ∀ j, j < (M i).nt → ∀ c, c < 3 → w.cell? ⟨b, o + j * 3 + c, none⟩ = some (.string (S j c))) := by
                by_cases h0 : 0 < (M i).nt
                · obtain ⟨b, o, S, h1, h2⟩ := ht.fn h0
                  injection h1 with h1
                  exact ⟨S, fun _ => ⟨b, o, h1, h2⟩⟩
                · exact ⟨fun _ _ => es, fun h => absurd h h0⟩
              clear ht
              go_wp2
              go_loopg [10] (M i).nt (fun gk t wz => ∃ j : Nat, j ≤ (M i).nt ∧ (M i).nt ≤ j + gk ∧ t = .int .i64 j ∧ Below (w3.heap.size) w3 wz ∧ w3.heap.size < wz.heap.size ∧ wz.rowIs (w3.heap.size) 67 ((M i).nt * 3) (srow 3 fun p => if p < j then S p else fun _ => es))
              case atStart => exact ⟨0, Nat.zero_le _, by omega, rfl, B5, M5.lt, by simpa using M5⟩
              case round =>
                obtain ⟨j, hj, hgj, rfl, hbz, hzz, hRz⟩ := hrel
                have hbw : Below w.heap.size w wr := hbw3.trans (hbz.mono (by omega))
                have kk := (hbz.cell (p := ⟨X, 5, none⟩) (by show X < w3.heap.size; omega)).trans k5'
                by_cases hlj : j < (M i).nt
                · obtain ⟨b2, o2, rfl, hSS⟩ := hS.out (by omega)
                  have hSj := hSS j hlj
                  have g0 := cell_ext (Nat.le_refl _) hbw (hSj 0 (by omega))
                  rw [Nat.add_zero] at g0
                  have g1 := cell_ext (Nat.le_refl _) hbw (hSj 1 (by omega))
                  have g2 := cell_ext (Nat.le_refl _) hbw (hSj 2 (by omega))
                  have hba := hbz.alloc (show w3.heap.size ≤ wr.heap.size by omega) (.cells #[.string (S j 0), .string (S j 1), .string (S j 2)] 54)
                  have hRa := hRz.alloc (.cells #[.string (S j 0), .string (S j 1), .string (S j 2)] 54)
                  have q0 := hRa.cell (i := j * 3) (by omega)
                  have z0 := hRa.frozen (j * 3)
                  have q1 := hRa.cell (i := j * 3 + 1) (by omega)
                  have z1 := hRa.frozen (j * 3 + 1)
                  have q2 := hRa.cell (i := j * 3 + 2) (by omega)
                  have z2 := hRa.frozen (j * 3 + 2)
                  have RP := srow_put3 hRa j (S j)
                  have l0 : (wr.alloc (.cells #[.string (S j 0), .string (S j 1), .string (S j 2)] 54)).cell? ⟨wr.heap.size, 0, none⟩ = some (.string (S j 0)) := by simp
                  have l1 : (wr.alloc (.cells #[.string (S j 0), .string (S j 1), .string (S j 2)] 54)).cell? ⟨wr.heap.size, 1, none⟩ = some (.string (S j 1)) := by simp
                  have l2 : (wr.alloc (.cells #[.string (S j 0), .string (S j 1), .string (S j 2)] 54)).cell? ⟨wr.heap.size, 2, none⟩ = some (.string (S j 2)) := by simp
                  have hza : (wr.alloc (.cells #[.string (S j 0), .string (S j 1), .string (S j 2)] 54)).heap.size = wr.heap.size + 1 := by simp
                  clear hSS hSj
                  go_upto_region 23 with (fail)
                  generalize wr.alloc (.cells #[.string (S j 0), .string (S j 1), .string (S j 2)] 54) = wa at *
                  go_wp2
                  go_roundg ((M i).nt - (j + 1))
                  case measure => omega
                  case rel =>
                    refine ⟨j + 1, by omega, by omega, by go_num, (((hba.setCell (by show w3.heap.size ≤ w3.heap.size; omega) _).setCell (by show w3.heap.size ≤ w3.heap.size; omega) _).setCell (by show w3.heap.size ≤ w3.heap.size; omega) _), by simp; omega, RP.congr fun o _ => srow_step 3 j S o⟩
                · go_wp2
                  go_meet
                  case rel => exact ⟨_, _, _, rfl, hbz⟩
          case rest =>
            obtain ⟨ta, tn, tc, rfl, hb4⟩ := hcut
            obtain ⟨w4, rfl⟩ : ∃ w4, w4 = wc := ⟨_, rfl⟩
            have hb4' : Below (X + 1) w2 w4 := hb3.trans (hb4.mono (by omega))
            have hz4 := hb4.size
            have k6' := (hb4'.cell (p := ⟨X, 6, none⟩) (by show X < X + 1; omega)).trans k6
            have hbw4 : Below w.heap.size w w4 := hb2.trans (hb4'.mono (by omega))
            have hcs4 := hcs3.ext (Nat.le_refl _) hb4
            clear hcs3
            go_upto_if 92 with (fail)
            go_cut [12] from 20 to 133 (fun s9 wc => ∃ ta tn tc, s9 = .slice ta tn tc ∧ Below w4.heap.size w4 wc)
            case first =>
              obtain ⟨_, _, _, ht⟩ := HCS.out
              rcases a6 with _ | y
              · have hz := ht.1 rfl
                go_wp2
                go_meet
                case rel => exact ⟨none, 0, 0, rfl, Below.refl _ _⟩
              · have hmk := run_makeS 68 70 #[.string es, .string es] 2 32 Try.underlying68 Try.info70 (by omega) (M i).np hn6
                have M5 := madeS2 w4 (M i).np
                have B5 := (Below.refl w4.heap.size w4).alloc (Nat.le_refl _) (.cells (madeCells #[.string es, .string es] ((M i).np * 2)) 70)
                go_upto_region 27 with (fail)
                generalize w4.alloc (.cells (madeCells #[.string es, .string es] ((M i).np * 2)) 70) = w5 at *
                clear hmk
                obtain ⟨S, hS⟩ : ∃ S : Nat → Nat → ByteArray, Hid (0 < (M i).np → ∃ b o, y = ⟨b, o, none⟩ ∧ ∀ j, j < (M i).np → ∀ c, c < 2 → w.cell? ⟨b, o + j * 2 + c, none⟩ = some (.string (S j c))) := by
                  by_cases h0 : 0 < (M i).np
                  · obtain ⟨b, o, S, h1, h2⟩ := ht.fn h0
                    injection h1 with h1
                    exact ⟨S, fun _ => ⟨b, o, h1, h2⟩⟩
                  · exact ⟨fun _ _ => es, fun h => absurd h h0⟩
                clear ht
                go_wp2
                go_loopg [13] (M i).np (fun gk t wz => ∃ j : Nat, j ≤ (M i).np ∧ (M i).np ≤ j + gk ∧ t = .int .i64 j ∧ Below (w4.heap.size) w4 wz ∧ w4.heap.size < wz.heap.size ∧ wz.rowIs (w4.heap.size) 70 ((M i).np * 2) (srow 2 fun p => if p < j then S p else fun _ => es))
                case atStart => exact ⟨0, Nat.zero_le _, by omega, rfl, B5, M5.lt, by simpa using M5⟩
                case round =>
                  obtain ⟨j, hj, hgj, rfl, hbz, hzz, hRz⟩ := hrel
                  have hbw : Below w.heap.size w wr := hbw4.trans (hbz.mono (by omega))
                  have kk := (hbz.cell (p := ⟨X, 6, none⟩) (by show X < w4.heap.size; omega)).trans k6'
                  by_cases hlj : j < (M i).np
                  · obtain ⟨b2, o2, rfl, hSS⟩ := hS.out (by omega)
                    have hSj := hSS j hlj
                    have g0 := cell_ext (Nat.le_refl _) hbw (hSj 0 (by omega))
                    rw [Nat.add_zero] at g0
                    have g1 := cell_ext (Nat.le_refl _) hbw (hSj 1 (by omega))
                    have hba := hbz.alloc (show w4.heap.size ≤ wr.heap.size by omega) (.cells #[.string (S j 0), .string (S j 1)] 56)
                    have hRa := hRz.alloc (.cells #[.string (S j 0), .string (S j 1)] 56)
                    have q0 := hRa.cell (i := j * 2) (by omega)
                    have z0 := hRa.frozen (j * 2)
                    have q1 := hRa.cell (i := j * 2 + 1) (by omega)
                    have z1 := hRa.frozen (j * 2 + 1)
                    have RP := srow_put2 hRa j (S j)
                    have l0 : (wr.alloc (.cells #[.string (S j 0), .string (S j 1)] 56)).cell? ⟨wr.heap.size, 0, none⟩ = some (.string (S j 0)) := by simp
                    have l1 : (wr.alloc (.cells #[.string (S j 0), .string (S j 1)] 56)).cell? ⟨wr.heap.size, 1, none⟩ = some (.string (S j 1)) := by simp
                    have hza : (wr.alloc (.cells #[.string (S j 0), .string (S j 1)] 56)).heap.size = wr.heap.size + 1 := by simp
                    clear hSS hSj
                    go_upto_region 31 with (fail)
                    generalize wr.alloc (.cells #[.string (S j 0), .string (S j 1)] 56) = wa at *
                    go_wp2
                    go_roundg ((M i).np - (j + 1))
                    case measure => omega
                    case rel =>
                      refine ⟨j + 1, by omega, by omega, by go_num, ((hba.setCell (by show w4.heap.size ≤ w4.heap.size; omega) _).setCell (by show w4.heap.size ≤ w4.heap.size; omega) _), by simp; omega, RP.congr fun o _ => srow_step 2 j S o⟩
                  · go_wp2
                    go_meet
                    case rel => exact ⟨_, _, _, rfl, hbz⟩
            case rest =>
              obtain ⟨pa, pn, pc, rfl, hb5⟩ := hcut
              obtain ⟨w5, rfl⟩ : ∃ w5, w5 = wc := ⟨_, rfl⟩
              have hb5' : Below (X + 1) w2 w5 := hb4'.trans (hb5.mono (by omega))
              have hcs5 := hcs4.ext (Nat.le_refl _) hb5
              have hR5 := row_ext hR2 hb5' (by omega)
              have hX5 : Hid (∀ j, j < i → MsgX w5 w.heap.size (j * 8) (M j)) := fun j hj => (hX2.out j hj).ext (by omega) hb5'
              have hbw5 : Below w.heap.size w w5 := hb2.trans (hb5'.mono (by omega))
              have m0 := (hb5'.cell (p := ⟨X, 0, none⟩) (by show X < X + 1; omega)).trans k0
              have m1 := (hb5'.cell (p := ⟨X, 1, none⟩) (by show X < X + 1; omega)).trans k1
              have m3 := (hb5'.cell (p := ⟨X, 3, none⟩) (by show X < X + 1; omega)).trans k3
              have m4 := (hb5'.cell (p := ⟨X, 4, none⟩) (by show X < X + 1; omega)).trans k4
              have m7 := (hb5'.cell (p := ⟨X, 7, none⟩) (by show X < X + 1; omega)).trans k7
              clear hb5 hb5' hb4 hb4' hb3 k0 k1 k2 k3 k4 k5 k6 k7 k5' k6' hcs4 hX2 hR2 hb2 e34 e35 e36
              have q0 := hR5.cell (i := i * 8) (by omega)
              have q1 := hR5.cell (i := i * 8 + 1) (by omega)
              have q2 := hR5.cell (i := i * 8 + 2) (by omega)
              have q3 := hR5.cell (i := i * 8 + 3) (by omega)
              have q4 := hR5.cell (i := i * 8 + 4) (by omega)
              have q5 := hR5.cell (i := i * 8 + 5) (by omega)
              have q6 := hR5.cell (i := i * 8 + 6) (by omega)
              have q7 := hR5.cell (i := i * 8 + 7) (by omega)
              have z0 := hR5.frozen (i * 8)
              have z1 := hR5.frozen (i * 8 + 1)
              have z2 := hR5.frozen (i * 8 + 2)
              have z3 := hR5.frozen (i * 8 + 3)
              have z4 := hR5.frozen (i * 8 + 4)
              have z5 := hR5.frozen (i * 8 + 5)
              have z6 := hR5.frozen (i * 8 + 6)
              have z7 := hR5.frozen (i * 8 + 7)
              have hx : 0 < (M i).nc → ∃ b, ca = some ⟨b, 0, none⟩ ∧ b ≠ w.heap.size := fun h => by
                obtain ⟨b, h1, h2⟩ := hca h
                exact ⟨b, h1, by omega⟩
              have HXX : Hid (MsgX ((((((((w5.setCell ⟨w.heap.size, i * 8, none⟩ (.string (M i).role)).setCell ⟨w.heap.size, i * 8 + 1, none⟩ (.string s1)).setCell ⟨w.heap.size, i * 8 + 2, none⟩ (.slice ca (M i).nc cc)).setCell ⟨w.heap.size, i * 8 + 3, none⟩ (.string (M i).tcid)).setCell ⟨w.heap.size, i * 8 + 4, none⟩ (.bool ff)).setCell ⟨w.heap.size, i * 8 + 5, none⟩ (.slice ta tn tc)).setCell ⟨w.heap.size, i * 8 + 6, none⟩ (.slice pa pn pc)).setCell ⟨w.heap.size, i * 8 + 7, none⟩ (.string s7)) w.heap.size (i * 8) (M i)) :=
                msgX_put hR5 (by omega) hx hcs5
              go_wp2
              go_roundg (n - (i + 1))
              case measure => omega
              case rel =>
                refine ⟨i + 1, by omega, by omega, by go_num, (((((((hbw5.setCell (Nat.le_refl _) _).setCell (Nat.le_refl _) _).setCell (Nat.le_refl _) _).setCell (Nat.le_refl _) _).setCell (Nat.le_refl _) _).setCell (Nat.le_refl _) _).setCell (Nat.le_refl _) _).setCell (Nat.le_refl _) _,
                  ⟨_, (((((((hR5.set _ _).set _ _).set _ _).set _ _).set _ _).set _ _).set _ _).set _ _⟩, fun j hj => ?_⟩
                by_cases e : j = i
                · subst e; exact HXX.out
                · exact ((((((((hX5.out j (by omega)).store (by omega)).store (by omega)).store (by omega)).store (by omega)).store (by omega)).store (by omega)).store (by omega)).store (by omega)
      · go_wp2
        go_ret
        exact ⟨_, rfl, hb, fun hn => ⟨w.heap.size, 0, rfl, fun j hj => by rw [Nat.zero_add]; exact (hX.out j (by omega)).msg⟩⟩

end Go.Proofs.Qxb6601521a
