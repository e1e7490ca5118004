/-
  ZZTakeState.
-/
import Derived.Test.Qxb6601609aTakB
namespace Go.Proofs.Qxb6601609a
open Go.RowKit Go.Deep
set_option linter.unusedVariables false

theorem Try.info47b : (Try.prog.info? 47).map (fun i => (i.zero, i.size, i.bytes)) = some (some (.agg #[.int .u8 0, .bool false]), 2, 2) := by kernel_rfl
theorem run_make45 (n : Nat) (hn : n ≤ 1048576) (kl kc : IntKind) (w : World) :
    (Instr.makeSlice 45 (.int kl (n : Int)) (.int kc (n : Int))).run Try.prog w = .ok (.slice (some ⟨w.heap.size, 0, none⟩) n n) (w.alloc (.cells (madeCells #[.int .u8 0, .bool false] (n * 2)) 47)) := by
  obtain ⟨i, hi, hzz⟩ := Option.map_eq_some_iff.1 Try.info47b
  simp only [Prod.mk.injEq] at hzz
  obtain ⟨hz, hs, hb⟩ := hzz
  have hr := run_make (P := Try.prog) w 45 47 i _ Try.underlying45 hi hz kl kc n n (by omega) (Int.le_refl _) (by rw [hb]; omega) (by omega)
  simp only [Int.toNat_natCast, hs, Value.cells] at hr
  exact hr
/-- the cells of brackets -/
def brf (z : Nat → Int) (q : Nat → Bool) : Nat → Value := fun o => if o % 2 = 0 then .int .u8 (z (o / 2)) else .bool (q (o / 2))
theorem made47 (w : World) (n : Nat) : (w.alloc (.cells (madeCells #[.int .u8 0, .bool false] (n * 2)) 47)).rowIs w.heap.size 47 (n * 2) (brf (fun _ => 0) (fun _ => false)) := by
  have h := World.rowIs_alloc w (madeCells #[.int .u8 0, .bool false] (n * 2)) 47 (brf (fun _ => 0) (fun _ => false)) ?_
  · rw [size_madeCells] at h; exact h
  · intro i hi
    rw [size_madeCells] at hi
    have : i % 2 = 0 ∨ i % 2 = 1 := by omega
    rcases this with h | h <;> simp [madeCells, hi, brf, h]
theorem brs_row {w : World} {B n : Nat} {z : Nat → Int} {q : Nat → Bool} (h : w.rowIs B 47 (n * 2) (brf z q)) : Brs w B n z q := fun i hi => by
  have h0 := h.cell (i := i * 2) (by omega)
  have h1 := h.cell (i := i * 2 + 1) (by omega)
  have e0 : i * 2 % 2 = 0 := by omega
  have e1 : i * 2 / 2 = i := by omega
  have e2 : (i * 2 + 1) % 2 = 1 := by omega
  have e3 : (i * 2 + 1) / 2 = i := by omega
  simp [brf, e0, e1] at h0
  simp [brf, e2, e3] at h1
  exact ⟨h0, h1⟩
theorem ErrK.ext {w w' : World} {H : Nat} (hH : w.heap.size ≤ H) (hb : Below H w w') {ev : Value} {kind : Nat} (h : ErrK w ev kind) : ErrK w' ev kind := by
  rcases h with h | ⟨hk, E, he, h0, h1, h2, h3, h4, h5⟩ | ⟨hk, E, he, h0, h1, h2, h3, h4, h5⟩
  · exact .inl h
  · exact .inr (.inl ⟨hk, E, he, cell_ext hH hb h0, cell_ext hH hb h1, cell_ext hH hb h2, cell_ext hH hb h3, cell_ext hH hb h4, cell_ext hH hb h5⟩)
  · exact .inr (.inr ⟨hk, E, he, cell_ext hH hb h0, cell_ext hH hb h1, cell_ext hH hb h2, cell_ext hH hb h3, cell_ext hH hb h4, cell_ext hH hb h5⟩)
theorem Brs.ext {w w' : World} {H : Nat} (hH : w.heap.size ≤ H) (hb : Below H w w') {G L : Nat} {z : Nat → Int} {q : Nat → Bool} (h : Brs w G L z q) : Brs w' G L z q := fun i hi =>
  ⟨cell_ext hH hb (h i hi).1, cell_ext hH hb (h i hi).2⟩
theorem row_ext {w w' : World} {H b n : Nat} {t : TypeId} {f : Nat → Value} (r : w.rowIs b t n f) (hb : Below H w w') (hlt : b < H) : w'.rowIs b t n f := r.of_block (hb.block b hlt)

theorem brf_put {w : World} {B n k : Nat} {z : Nat → Int} {q : Nat → Bool} (x : Int) (y : Bool) (h : w.rowIs B 47 (n * 2) (brf z q)) :
    ((w.setCell ⟨B, k * 2, none⟩ (.int .u8 x)).setCell ⟨B, k * 2 + 1, none⟩ (.bool y)).rowIs B 47 (n * 2) (brf (fun i => if i = k then x else z i) (fun i => if i = k then y else q i)) := by
  refine ((h.set _ _).set _ _).congr fun i hi => ?_
  by_cases hk : i / 2 = k
  · have : i = k * 2 ∨ i = k * 2 + 1 := by omega
    rcases this with h | h
    · subst h
      have e1 : k * 2 / 2 = k := by omega
      simp [brf, e1]
    · subst h
      have e1 : (k * 2 + 1) / 2 = k := by omega
      have e2 : (k * 2 + 1) % 2 = 1 := by omega
      simp [brf, e1, e2]
  · have a0 : ¬ i = k * 2 := by omega
    have a1 : ¬ i = k * 2 + 1 := by omega
    simp [brf, a0, a1, hk]

set_option maxRecDepth 100000 in
set_option maxHeartbeats 2000000 in
theorem state18 (S so sn L st en cs cb : Nat) (ac ab : Option Addr) (m b d k f : Int) (z : Nat → Int) (q : Nat → Bool) (w : World) (hL : L ≤ 4096)
    (hC : At w ac L (u8s z)) (hB : At w ab L (bos q)) (c : Int) (hS : w.cell? ⟨S, so + st, none⟩ = some (.int .u8 c))
    (at_ : Int) (kind L' : Nat) (z' : Nat → Int) (q' : Nat → Bool) (m' b' : Int) (hL' : L' ≤ 4097)
    (hT : ∀ (base N O : Nat) (w1 : World), base ≤ N → base ≤ w1.heap.size → O ≠ N → S ≠ N → w1.rowIs N 50 7 (nf (.slice (some ⟨S, so, none⟩) sn sn) (.slice (some ⟨O, 0, none⟩) L L) m b d k f) → Brs w1 O L z q → O < w1.heap.size → w1.cell? ⟨S, so + st, none⟩ = some (.int .u8 c) →
      Calls Try.prog 30 #[.pointer (some ⟨N, 0, none⟩), .int .i64 st, .int .i64 en] w1 fun e w' => ∃ ev, e = .returned (.tuple #[.int .i64 at_, ev]) ∧ Took base w1 w' N (.slice (some ⟨S, so, none⟩) sn sn) ev kind L' z' q' m' b' d) :
    Calls Try.prog 18 #[.slice (some ⟨S, so, none⟩) sn sn, .slice ac L cs, .slice ab L cb, .int .i64 m, .int .i64 b, .int .i64 d, .int .i64 k, .int .i64 f, .int .i64 st, .int .i64 en] w fun e w' =>
      ∃ ev a1 a2, e = .returned (.tuple #[.int .i64 at_, ev, .slice a1 L' L', .slice a2 L' L', .int .i64 m', .int .i64 b', .int .i64 d, .int .i64 (-1), .int .i64 (-1)]) ∧ Below w.heap.size w w' ∧ ErrK w' ev kind ∧ At w' a1 L' (u8s z') ∧ At w' a2 L' (bos q') := by
  have hmk := run_make45 L (by omega)
  have R := made47 w L
  have B1 := (Below.refl w.heap.size w).alloc (Nat.le_refl _) (.cells (madeCells #[.int .u8 0, .bool false] (L * 2)) 47)
  have HH : Hid (At w ac L (u8s z) ∧ At w ab L (bos q) ∧ w.cell? ⟨S, so + st, none⟩ = some (.int .u8 c)) := ⟨hC, hB, hS⟩
  have HT : Hid (∀ (base N O : Nat) (w1 : World), base ≤ N → base ≤ w1.heap.size → O ≠ N → S ≠ N → w1.rowIs N 50 7 (nf (.slice (some ⟨S, so, none⟩) sn sn) (.slice (some ⟨O, 0, none⟩) L L) m b d k f) → Brs w1 O L z q → O < w1.heap.size → w1.cell? ⟨S, so + st, none⟩ = some (.int .u8 c) →
      Calls Try.prog 30 #[.pointer (some ⟨N, 0, none⟩), .int .i64 st, .int .i64 en] w1 fun e w' => ∃ ev, e = .returned (.tuple #[.int .i64 at_, ev]) ∧ Took base w1 w' N (.slice (some ⟨S, so, none⟩) sn sn) ev kind L' z' q' m' b' d) := hT
  have hSl := block_lt_of_cell hS
  clear hC hB hS hT
  have hz0 : w.heap.size < (w.alloc (.cells (madeCells #[.int .u8 0, .bool false] (L * 2)) 47)).heap.size := by simp
  go_enter Try.func18, Try.ntmps18
  go_upto_region 2 with (fail)
  generalize w.alloc (.cells (madeCells #[.int .u8 0, .bool false] (L * 2)) 47) = w1 at *
  clear hmk
  go_wp2_with fail
  go_loopg [30] L (fun gk t wr => ∃ i : Nat, i ≤ L ∧ L ≤ i + gk ∧ t = .int .i64 i ∧ Below w.heap.size w wr ∧ w.heap.size < wr.heap.size ∧ wr.rowIs w.heap.size 47 (L * 2) (brf (fun j => if j < i then z j else 0) (fun j => if j < i then q j else false)))
  case atStart => exact ⟨0, Nat.zero_le _, by omega, rfl, B1, hz0, R.congr fun o _ => by simp [brf]⟩
  case round =>
    obtain ⟨i, hi, hgk, rfl, hb, hz, hR⟩ := hrel
    clear R B1 hz0
    by_cases hlt : i < L
    · obtain ⟨bc, oc, rfl, e0⟩ := HH.out.1.get i hlt
      obtain ⟨bb, ob, rfl, e1⟩ := HH.out.2.1.get i hlt
      have e0 : w.cell? ⟨bc, oc + i, none⟩ = some (.int .u8 (z i)) := e0
      have e1 : w.cell? ⟨bb, ob + i, none⟩ = some (.bool (q i)) := e1
      have e0 := cell_ext (Nat.le_refl _) hb e0
      have e1 := cell_ext (Nat.le_refl _) hb e1
      have p0 := hR.cell (i := i * 2) (by omega)
      have p1 := hR.cell (i := i * 2 + 1) (by omega)
      have f0 := hR.frozen (i * 2)
      have f1 := hR.frozen (i * 2 + 1)
      have R2 := brf_put (k := i) (z i) (q i) hR
      go_upto_region 5 with (fail)
      go_region
      go_wp2
      go_roundg (L - (i + 1))
      case measure => omega
      case rel =>
        refine ⟨i + 1, by omega, by omega, by go_num, ?_, ?_, ?_⟩
        · exact ((hb.setCell (Nat.le_refl _) _).setCell (Nat.le_refl _) _).trans ⟨rfl, rfl, rfl, Nat.le_refl _, fun _ _ => rfl⟩
        · have e : ((wr.setCell ⟨w.heap.size, i * 2, none⟩ (.int .u8 (z i))).setCell ⟨w.heap.size, i * 2 + 1, none⟩ (.bool (q i))).heap.size = wr.heap.size := by simp
          exact Nat.lt_of_lt_of_le hz (Nat.le_of_eq e.symm)
        · refine World.rowIs.congr (w := ((wr.setCell ⟨w.heap.size, i * 2, none⟩ (.int .u8 (z i))).setCell ⟨w.heap.size, i * 2 + 1, none⟩ (.bool (q i)))) R2 fun o ho => ?_
          have hif : ∀ x : Nat, x < i + 1 ↔ (x = i ∨ x < i) := fun x => by omega
          by_cases e : o / 2 = i
          · simp [brf, e]
          · have : o / 2 < i + 1 ↔ o / 2 < i := by omega
            simp [brf, e, this]
    · obtain rfl : i = L := by omega
      have hd : decide ((i : Int) < (i : Int)) = false := by simp
      have hO : Brs wr w.heap.size i z q := brs_row (hR.congr fun o ho => by
        have : o / 2 < i := by omega
        simp [brf, this])
      have RN := nf_row (.slice (some ⟨S, so, none⟩) sn sn) (.slice (some ⟨w.heap.size, 0, none⟩) i i) m b d k f wr
      have hal := (Below.refl wr.heap.size wr).alloc (Nat.le_refl _) (.cells #[.slice (some ⟨S, so, none⟩) sn sn, .slice (some ⟨w.heap.size, 0, none⟩) i i, .int .i64 m, .int .i64 b, .int .i64 d, .int .i64 k, .int .i64 f] 50)
      have hz2 : wr.heap.size < (wr.alloc (.cells #[.slice (some ⟨S, so, none⟩) sn sn, .slice (some ⟨w.heap.size, 0, none⟩) i i, .int .i64 m, .int .i64 b, .int .i64 d, .int .i64 k, .int .i64 f] 50)).heap.size := by simp
      go_upto_region 7 with (fail)
      generalize wr.alloc (.cells #[.slice (some ⟨S, so, none⟩) sn sn, .slice (some ⟨w.heap.size, 0, none⟩) i i, .int .i64 m, .int .i64 b, .int .i64 d, .int .i64 k, .int .i64 f] 50) = w2 at *
      have hO2 := hO.ext (Nat.le_refl _) hal
      have hb2 := hb.trans (hal.mono (by omega))
      have hS2 := cell_ext (Nat.le_refl _) hb2 HH.out.2.2
      have hN1 : w.heap.size < wr.heap.size := hz
      clear hO hR hal hb
      generalize wr.heap.size = N at *
      have C := HT.out w.heap.size N w.heap.size w2 (by omega) (by omega) (by omega) (by omega) RN hO2 (by omega) hS2
      clear RN hO2 hS2
      go_wp2_with fail
      refine C.mono ?_; clear C
      rintro e w3 ⟨ev, rfl, hb3', hN3, hE3, G, cap, hG3, hR3, hBr3⟩
      have hb3 := hb2.trans hb3'
      clear hb3' hb2
      have c1 : w3.cell? ⟨N, 1, none⟩ = some (.slice (some ⟨G, 0, none⟩) L' cap) := hR3.cell (i := 1) (by omega)
      have hm24 := run_make24 L' (by omega)
      have hm32 := run_make32 L' (by omega)
      have RP := (World.rowIs_made w3 (.int .u8 0) L' 5).alloc (.cells (madeCells #[.bool false] L') 4)
      have RQ := World.rowIs_made (w3.alloc (.cells (madeCells #[.int .u8 0] L') 5)) (.bool false) L' 4
      have hzz : (w3.alloc (.cells (madeCells #[.int .u8 0] L') 5)).heap.size = w3.heap.size + 1 := by simp
      rw [hzz] at RQ
      have hb4 := ((Below.refl w3.heap.size w3).alloc (Nat.le_refl _) (.cells (madeCells #[.int .u8 0] L') 5)).alloc (by omega) (.cells (madeCells #[.bool false] L') 4)
      clear hzz
      go_upto_region 10 with (fail)
      generalize (w3.alloc (.cells (madeCells #[.int .u8 0] L') 5)).alloc (.cells (madeCells #[.bool false] L') 4) = w4 at *
      clear hm24 hm32
      have hPQ : w3.heap.size ≠ w3.heap.size + 1 := by omega
      go_wp2_with fail
      go_loopg [36] L' (fun gk t wz => ∃ j : Nat, j ≤ L' ∧ L' ≤ j + gk ∧ t = .int .i64 j ∧ Below w3.heap.size w3 wz ∧ wz.rowIs w3.heap.size 5 L' (fun i => .int .u8 (if i < j then z' i else 0)) ∧ wz.rowIs (w3.heap.size + 1) 4 L' (fun i => .bool (if i < j then q' i else false)))
      case atStart => exact ⟨0, Nat.zero_le _, by omega, rfl, hb4, RP.congr fun o _ => by simp, RQ.congr fun o _ => by simp⟩
      case round =>
        obtain ⟨j, hj, hgj, rfl, hbz, hP, hQ⟩ := hrel
        clear RP RQ hb4
        have c1' := cell_ext (Nat.le_refl _) hbz c1
        by_cases hlj : j < L'
        · have g0 := cell_ext (Nat.le_refl _) hbz (hBr3 j hlj).1
          have g1 := cell_ext (Nat.le_refl _) hbz (hBr3 j hlj).2
          have p0 := hP.cell hlj
          have p1 := hQ.cell hlj
          have f0 := hP.frozen j
          have f1 := hQ.frozen j
          have P2 := (hP.set j (.int .u8 (z' j))).setOther (a := ⟨w3.heap.size + 1, j, none⟩) (by show w3.heap.size ≠ w3.heap.size + 1; omega) (.bool (q' j))
          have Q2 := (World.rowIs.setOther (a := ⟨w3.heap.size, j, none⟩) hQ (by show w3.heap.size + 1 ≠ w3.heap.size; omega) (.int .u8 (z' j))).set j (.bool (q' j))
          go_wp2
          go_roundg (L' - (j + 1))
          case measure => omega
          case rel =>
            refine ⟨j + 1, by omega, by omega, by go_num, (hbz.setCell (Nat.le_refl _) _).setCell (by show w3.heap.size ≤ w3.heap.size + 1; omega) _, P2.congr fun o ho => ?_, Q2.congr fun o ho => ?_⟩
            · by_cases e : o = j
              · subst e; simp
              · have : o < j + 1 ↔ o < j := by omega
                simp [e, this]
            · by_cases e : o = j
              · subst e; simp
              · have : o < j + 1 ↔ o < j := by omega
                simp [e, this]
        · obtain rfl : j = L' := by omega
          have hd2 : decide ((j : Int) < (j : Int)) = false := by simp
          have hb5 := hb3.trans (hbz.mono hb3.size)
          have hE5 := hE3.ext (Nat.le_refl _) hbz
          have k2 : wr.cell? ⟨N, 2, none⟩ = some (.int .i64 m') := cell_ext (Nat.le_refl _) hbz (hR3.cell (i := 2) (by omega))
          have k3 : wr.cell? ⟨N, 3, none⟩ = some (.int .i64 b') := cell_ext (Nat.le_refl _) hbz (hR3.cell (i := 3) (by omega))
          have k4 : wr.cell? ⟨N, 4, none⟩ = some (.int .i64 d) := cell_ext (Nat.le_refl _) hbz (hR3.cell (i := 4) (by omega))
          have k5 : wr.cell? ⟨N, 5, none⟩ = some (.int .i64 (-1)) := cell_ext (Nat.le_refl _) hbz (hR3.cell (i := 5) (by omega))
          have k6 : wr.cell? ⟨N, 6, none⟩ = some (.int .i64 (-1)) := cell_ext (Nat.le_refl _) hbz (hR3.cell (i := 6) (by omega))
          have AP : At wr (some ⟨w3.heap.size, 0, none⟩) j (u8s z') := at_row (hP.congr fun o ho => by simp [u8s, ho])
          have AQ : At wr (some ⟨w3.heap.size + 1, 0, none⟩) j (bos q') := at_row (hQ.congr fun o ho => by simp [bos, ho])
          go_wp2
          go_quiet (fail)
          go_wp2
          exact bodyPost_ret (v := .tuple #[.int .i64 at_, ev, .slice (some ⟨w3.heap.size, 0, none⟩) j j, .slice (some ⟨w3.heap.size + 1, 0, none⟩) j j, .int .i64 m', .int .i64 b', .int .i64 d, .int .i64 (-1), .int .i64 (-1)]) (by simp [results, Try.results18, go_sem]) rfl ⟨_, _, _, rfl, below_drewN hb5 _, hE5, AP, AQ⟩

end Go.Proofs.Qxb6601609a
