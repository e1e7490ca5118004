/-
  (*nesting).take at a token that opens a bracket: it is pushed.
-/
import Derived.Test.Qxb6601609aTakB
import Derived.Deep.AppendLies
namespace Go.Proofs.Qxb6601609a
open Go.RowKit Go.Deep
set_option linter.unusedVariables false

/-- one more message, as Go counts -/
def mUp (m : Int) : Int := if m = 9223372036854775807 then -9223372036854775808 else m + 1
/-- one bracket more; the messages and the awaited body then -/
def zP (L : Nat) (z : Nat → Int) (x : Int) : Nat → Int := fun i => if i < L then z i else x
def qP (L : Nat) (q : Nat → Bool) (y : Bool) : Nat → Bool := fun i => if i < L then q i else y
def mO (bf : Bool) (m : Int) : Int := if bf then mUp m else m
def bO (bf : Bool) (b : Int) : Int := if bf then -1 else b
/-- a test's outcome that lets a bracket pass -/
def Tst (m : Int) (v : Value) : Prop := ∃ t : Bool, v = .bool t ∧ (t = true → m ≠ 31)

theorem Try.info47 : (Try.prog.info? 47).map (fun i => (i.zero, i.size, i.bytes)) = some (some (.agg #[.int .u8 0, .bool false]), 2, 2) := by kernel_rfl

/-- the cells of the brackets -/
def brl (L : Nat) (z : Nat → Int) (q : Nat → Bool) : List Value := (List.range L).flatMap fun i => [.int .u8 (z i), .bool (q i)]
theorem brl_len (L : Nat) (z : Nat → Int) (q : Nat → Bool) : (brl L z q).length = L * 2 := by
  induction L with
  | zero => rfl
  | succ L ih => unfold brl at *; rw [List.range_succ, List.flatMap_append, List.length_append, ih]; simp; omega
theorem brl_succ (L : Nat) (z : Nat → Int) (q : Nat → Bool) : brl (L + 1) z q = brl L z q ++ [.int .u8 (z L), .bool (q L)] := by
  unfold brl; rw [List.range_succ, List.flatMap_append]; simp
theorem brl_get : ∀ (L : Nat) (z : Nat → Int) (q : Nat → Bool) (i : Nat), i < L → (brl L z q)[i * 2]? = some (.int .u8 (z i)) ∧ (brl L z q)[i * 2 + 1]? = some (.bool (q i)) := by
  intro L z q
  induction L with
  | zero => intro i hi; omega
  | succ L ih =>
    intro i hi
    rw [brl_succ]
    have hl := brl_len L z q
    by_cases e : i = L
    · subst e
      rw [List.getElem?_append_right (by omega), List.getElem?_append_right (by omega), hl]
      constructor
      · rw [show i * 2 - i * 2 = 0 by omega]; rfl
      · rw [show i * 2 + 1 - i * 2 = 1 by omega]; rfl
    · rw [List.getElem?_append_left (by omega), List.getElem?_append_left (by omega)]
      exact ih i (by omega)

theorem add0 (g j : Nat) : (⟨g, 0, none⟩ : Addr).add j = ⟨g, j, none⟩ := by unfold Addr.add; split <;> simp_all
theorem brl_congr {L : Nat} {z z' : Nat → Int} {q q' : Nat → Bool} (hz : ∀ i, i < L → z i = z' i) (hq : ∀ i, i < L → q i = q' i) : brl L z q = brl L z' q' := by
  induction L with
  | zero => rfl
  | succ L ih => rw [brl_succ, brl_succ, ih (fun i hi => hz i (by omega)) (fun i hi => hq i (by omega)), hz L (by omega), hq L (by omega)]
theorem brl_push (L : Nat) (z : Nat → Int) (q : Nat → Bool) (x : Int) (y : Bool) : brl L z q ++ [.int .u8 x, .bool y] = brl (L + 1) (fun i => if i < L then z i else x) (fun i => if i < L then q i else y) := by
  rw [brl_succ]
  rw [brl_congr (L := L) (z' := fun i => if i < L then z i else x) (q' := fun i => if i < L then q i else y) (fun i hi => by simp [hi]) (fun i hi => by simp [hi])]
  simp
theorem brl_cells {w : World} {O L : Nat} {z : Nat → Int} {q : Nat → Bool} (h : Brs w O L z q) (j : Nat) (u : Value) (hu : (brl L z q)[j]? = some u) : w.cell? ⟨O, j, none⟩ = some u := by
  have hj : j < L * 2 := by
    have := (List.getElem?_eq_some_iff.1 hu).1
    rw [brl_len] at this; exact this
  obtain ⟨g0, g1⟩ := brl_get L z q (j / 2) (by omega)
  obtain ⟨h0, h1⟩ := h (j / 2) (by omega)
  have : j = j / 2 * 2 ∨ j = j / 2 * 2 + 1 := by omega
  rcases this with e | e
  · rw [← e] at g0 h0
    rw [g0] at hu; rw [h0]; exact hu
  · rw [← e] at g1 h1
    rw [g1] at hu; rw [h1]; exact hu

set_option maxRecDepth 100000 in
set_option maxHeartbeats 4000000 in
theorem take30c (base N S so sn O L st en : Nat) (c m b d k f : Int) (z : Nat → Int) (q : Nat → Bool) (w : World) (hbN : base ≤ N) (hbz : base ≤ w.heap.size) (hON : O ≠ N) (hSN : S ≠ N)
    (hst : st < en) (hen : en ≤ sn) (hsn : sn ≤ 1048576) (hL : L ≤ 1048576) (hc : clo c ≠ 0) (hR : w.rowIs N 50 7 (nf (.slice (some ⟨S, so, none⟩) sn sn) (.slice (some ⟨O, 0, none⟩) L L) m b d k f))
    (hO : Brs w O L z q) (hOl : O < w.heap.size) (hS : w.cell? ⟨S, so + st, none⟩ = some (.int .u8 c)) (h100 : L ≠ 100) (hnr : ¬ (m = 31 ∧ ((c = 123 ∧ b = L) ∨ (c = 60 ∧ 0 ≤ f)))) (bf : Bool) (hbf : bf = (decide (c = 123) && decide (b = L))) (hm1 : -9223372036854775808 ≤ m) (hm2 : m ≤ 9223372036854775807) :
    Calls Try.prog 30 #[.pointer (some ⟨N, 0, none⟩), .int .i64 st, .int .i64 en] w fun e w' => ∃ ev, e = .returned (.tuple #[.int .i64 0, ev]) ∧ Took base w w' N (.slice (some ⟨S, so, none⟩) sn sn) ev 0 (L + 1) (zP L z (clo c)) (qP L q bf) (mO bf m) (bO bf b) d := by
  have HBF : Hid (bf = (decide (c = 123) && decide (b = L))) := hbf
  have HNR : Hid (¬ (m = 31 ∧ ((c = 123 ∧ b = L) ∨ (c = 60 ∧ 0 ≤ f)))) := hnr
  clear hbf hnr
  have hNl := hR.lt
  have c0 : w.cell? ⟨N, 0, none⟩ = some (.slice (some ⟨S, so, none⟩) sn sn) := hR.cell (i := 0) (by omega)
  have c5 : w.cell? ⟨N, 5, none⟩ = some (.int .i64 k) := hR.cell (i := 5) (by omega)
  have c6 : w.cell? ⟨N, 6, none⟩ = some (.int .i64 f) := hR.cell (i := 6) (by omega)
  go_enter Try.func30, Try.ntmps30
  go_upto_region 2 with (fail)
  go_quiet (fail)
  have hbq := below_drewN (Below.refl base w) nq
  have hRq : (w.drewN nq).rowIs N 50 7 (nf (.slice (some ⟨S, so, none⟩) sn sn) (.slice (some ⟨O, 0, none⟩) L L) m b d k f) := hR
  have hOq : Brs (w.drewN nq) O L z q := hO
  have hSq : (w.drewN nq).cell? ⟨S, so + st, none⟩ = some (.int .u8 c) := hS
  have hzq : (w.drewN nq).heap.size = w.heap.size := rfl
  generalize w.drewN nq = wq at *
  clear c0 c5 c6 hR hO hS
  have c5 : wq.cell? ⟨N, 5, none⟩ = some (.int .i64 k) := hRq.cell (i := 5) (by omega)
  have c6 : wq.cell? ⟨N, 6, none⟩ = some (.int .i64 f) := hRq.cell (i := 6) (by omega)
  have f5 := hRq.frozen 5
  have f6 := hRq.frozen 6
  go_upto_region 4 with (fail)
  have hR1 := nf_set6 (nf_set5 hRq (-1)) (-1)
  have hO1 : Brs ((wq.setCell ⟨N, 5, none⟩ (.int .i64 (-1))).setCell ⟨N, 6, none⟩ (.int .i64 (-1))) O L z q := hOq.same (by rw [heap_set _ (by exact hON), heap_set _ (by exact hON)])
  have hS1 : ((wq.setCell ⟨N, 5, none⟩ (.int .i64 (-1))).setCell ⟨N, 6, none⟩ (.int .i64 (-1))).cell? ⟨S, so + st, none⟩ = some (.int .u8 c) := (cell_same (by rw [heap_set _ (by exact hSN), heap_set _ (by exact hSN)])).trans hSq
  have hb1 : Below base w ((wq.setCell ⟨N, 5, none⟩ (.int .i64 (-1))).setCell ⟨N, 6, none⟩ (.int .i64 (-1))) := (hbq.setCell (by exact hbN) _).setCell (by exact hbN) _
  have HZ1 : Hid (((wq.setCell ⟨N, 5, none⟩ (.int .i64 (-1))).setCell ⟨N, 6, none⟩ (.int .i64 (-1))).heap.size = w.heap.size) := by show _ = _; simp [hzq]
  generalize (wq.setCell ⟨N, 5, none⟩ (.int .i64 (-1))).setCell ⟨N, 6, none⟩ (.int .i64 (-1)) = w1 at *
  clear c5 c6 f5 f6 hRq hOq hSq hbq hzq
  have C := closer27 c w1
  have hcl : (clo c == 0) = false := by simpa using hc
  have hcn : (clo c != 0) = true := by simpa using hc
  go_wp2_with fail
  refine C.mono ?_; clear C
  rintro e w1 ⟨rfl, rfl⟩
  have d1 : w1.cell? ⟨N, 1, none⟩ = some (.slice (some ⟨O, 0, none⟩) L L) := hR1.cell (i := 1) (by omega)
  have d2 : w1.cell? ⟨N, 2, none⟩ = some (.int .i64 m) := hR1.cell (i := 2) (by omega)
  have d3 : w1.cell? ⟨N, 3, none⟩ = some (.int .i64 b) := hR1.cell (i := 3) (by omega)
  have d4 : w1.cell? ⟨N, 4, none⟩ = some (.int .i64 d) := hR1.cell (i := 4) (by omega)
  have hz1 := HZ1.out
  have hNl1 : N < w1.heap.size := by omega
  have hOl1 : O < w1.heap.size := by omega
  have hbz1 : base ≤ w1.heap.size := by omega
  clear hz1
  have h1b : (((L : Nat) : Int) == 100) = false := by simp; omega
  have h0en : 0 < en - st := by omega
  have hAl := (Below.refl w1.heap.size w1).alloc (Nat.le_refl _) (.cells #[.int .u8 0, .bool false] 47)
  have sA : (w1.alloc (.cells #[.int .u8 0, .bool false] 47)).drew.cell? ⟨S, so + st, none⟩ = some (.int .u8 c) := cell_ext (Nat.le_refl _) hAl hS1
  have nA1 : (w1.alloc (.cells #[.int .u8 0, .bool false] 47)).drew.cell? ⟨N, 1, none⟩ = some (.slice (some ⟨O, 0, none⟩) L L) := cell_ext (Nat.le_refl _) hAl d1
  have nA3 : (w1.alloc (.cells #[.int .u8 0, .bool false] 47)).drew.cell? ⟨N, 3, none⟩ = some (.int .i64 b) := cell_ext (Nat.le_refl _) hAl d3
  have sB : w1.drew.cell? ⟨S, so + st, none⟩ = some (.int .u8 c) := hS1
  have nB1 : w1.drew.cell? ⟨N, 1, none⟩ = some (.slice (some ⟨O, 0, none⟩) L L) := d1
  have nB3 : w1.drew.cell? ⟨N, 3, none⟩ = some (.int .i64 b) := d3
  clear hAl
  go_upto_region 8 with (fail)
  go_cut [12] from 14 to 238 (fun v wc => v = .pointer (some ⟨w1.heap.size, 0, none⟩) ∧ Below w1.heap.size w1 wc ∧ w1.heap.size < wc.heap.size ∧ wc.cell? ⟨w1.heap.size, 0, none⟩ = some (.int .u8 (clo c)) ∧ wc.cell? ⟨w1.heap.size, 1, none⟩ = some (.bool bf))
  case first =>
    by_cases h1 : c = 123
    · subst h1
      by_cases h2 : b = L
      · subst h2
        obtain rfl : bf = true := by rw [HBF.out]; simp
        as_aux_lemma =>
          go_region
          go_wp2
          go_meet
          case rel => exact ⟨rfl, br_alloc w1 (clo 123) true⟩
      · obtain rfl : bf = false := by rw [HBF.out]; simp [h2]
        have h2b : (b == (L : Int)) = false := by simpa using h2
        as_aux_lemma =>
          go_region
          go_wp2
          go_meet
          case rel => exact ⟨rfl, br_alloc w1 (clo 123) false⟩
    · obtain rfl : bf = false := by rw [HBF.out]; simp [h1]
      have h1c : (c == 123) = false := by simpa using h1
      as_aux_lemma =>
        go_region
        go_wp2
        go_meet
        case rel => exact ⟨rfl, br_alloc w1 (clo c) false⟩
  case rest =>
    obtain ⟨w2, rfl⟩ : ∃ w2, w2 = wc := ⟨_, rfl⟩
    obtain ⟨rfl, hbc, hXc, x0, x1⟩ := hcut
    have hRc : w2.rowIs N 50 7 _ := hR1.of_block (hbc.block N hNl1)
    have hOc := hO1.same (hbc.block O hOl1)
    have hSc := cell_ext (Nat.le_refl _) hbc hS1
    have hb2 := hb1.trans (hbc.mono hbz1)
    have hzc := hbc.size
    have hNc : N < w2.heap.size := by omega
    have hOc' : O < w2.heap.size := by omega
    have hbzc : base ≤ w2.heap.size := by omega
    have hXN : w1.heap.size ≠ N := by omega
    have hXb : base ≤ w1.heap.size := hbz1
    clear sA nA1 nA3 sB nB1 nB3 d1 d2 d3 d4 hb1 hR1 hO1 hS1 HZ1
    generalize w1.heap.size = X at *
    have d1 : w2.cell? ⟨N, 1, none⟩ = some (.slice (some ⟨O, 0, none⟩) L L) := hRc.cell (i := 1) (by omega)
    have d2 : w2.cell? ⟨N, 2, none⟩ = some (.int .i64 m) := hRc.cell (i := 2) (by omega)
    have d3 : w2.cell? ⟨N, 3, none⟩ = some (.int .i64 b) := hRc.cell (i := 3) (by omega)
    go_upto_region 9 with (fail)
    go_cut [79] from 14 to 238 (fun v wd => Tst m v ∧ wd = w2)
    case first =>
      as_aux_lemma =>
        cases bf
        · by_cases hf : 0 ≤ f
          · by_cases h60 : c = 60
            · subst h60
              go_wp2
              go_meet
              case rel => exact ⟨⟨true, rfl, fun _ h => HNR.out ⟨h, .inr ⟨by first | rfl | trivial, hf⟩⟩⟩, by first | rfl | trivial⟩
            · have h6b : (c == 60) = false := by simpa using h60
              go_wp2
              go_meet
              case rel => exact ⟨⟨false, rfl, fun h => by cases h⟩, by first | rfl | trivial⟩
          · have hfd : decide (0 ≤ f) = false := by simpa using hf
            go_wp2
            go_meet
            case rel => exact ⟨⟨false, rfl, fun h => by cases h⟩, by first | rfl | trivial⟩
        · have hcc : c = 123 ∧ b = L := by simpa using HBF.out.symm
          have hm31 : m ≠ 31 := fun h => HNR.out ⟨h, .inl hcc⟩
          clear hcc
          go_wp2
          go_meet
          case rel => exact ⟨⟨true, rfl, fun _ => hm31⟩, by first | rfl | trivial⟩
    case rest =>
      obtain ⟨⟨t, rfl, ht⟩, hwd⟩ := hcut
      subst hwd
      obtain ⟨w2, rfl⟩ : ∃ w2, w2 = wc := ⟨_, rfl⟩
      go_upto_if 79 with (fail)
      go_cut [] from 14 to 238 (fun wd => wd = w2)
      case first =>
        as_aux_lemma =>
          cases t
          · go_wp2
            go_meet
            case rel => first | rfl | trivial
          · have h31 : (m == 31) = false := by simpa using ht rfl
            go_wp2
            go_meet
            case rel => first | rfl | trivial
      case rest =>
        subst hcut
        obtain ⟨w2, rfl⟩ : ∃ w2, w2 = wc := ⟨_, rfl⟩
        have f2 := hRc.frozen 2
        have f3 := hRc.frozen 3
        go_upto_if 97 with (fail)
        go_cut [] from 14 to 238 (fun wd => wd.rowIs N 50 7 (nf (.slice (some ⟨S, so, none⟩) sn sn) (.slice (some ⟨O, 0, none⟩) L L) (mO bf m) (bO bf b) d (-1) (-1)) ∧ Brs wd O L z q ∧ wd.cell? ⟨X, 0, none⟩ = some (.int .u8 (clo c)) ∧ wd.cell? ⟨X, 1, none⟩ = some (.bool bf) ∧ Below base w wd ∧ wd.heap.size = w2.heap.size)
        case first =>
          as_aux_lemma =>
            cases bf
            · go_wp2
              go_meet
              case rel => exact ⟨hRc, hOc, x0, x1, hb2, rfl⟩
            · have RR := nf_set3 (nf_set2 hRc (mUp m)) (-1)
              have HG : Hid (∀ v, v = mUp m → ((w2.setCell ⟨N, 2, none⟩ (.int .i64 v)).setCell ⟨N, 3, none⟩ (.int .i64 (-1))).rowIs N 50 7 (nf (.slice (some ⟨S, so, none⟩) sn sn) (.slice (some ⟨O, 0, none⟩) L L) (mUp m) (-1) d (-1) (-1)) ∧
                  Brs ((w2.setCell ⟨N, 2, none⟩ (.int .i64 v)).setCell ⟨N, 3, none⟩ (.int .i64 (-1))) O L z q ∧ ((w2.setCell ⟨N, 2, none⟩ (.int .i64 v)).setCell ⟨N, 3, none⟩ (.int .i64 (-1))).cell? ⟨X, 0, none⟩ = some (.int .u8 (clo c)) ∧
                  ((w2.setCell ⟨N, 2, none⟩ (.int .i64 v)).setCell ⟨N, 3, none⟩ (.int .i64 (-1))).cell? ⟨X, 1, none⟩ = some (.bool true) ∧ Below base w ((w2.setCell ⟨N, 2, none⟩ (.int .i64 v)).setCell ⟨N, 3, none⟩ (.int .i64 (-1))) ∧
                  ((w2.setCell ⟨N, 2, none⟩ (.int .i64 v)).setCell ⟨N, 3, none⟩ (.int .i64 (-1))).heap.size = w2.heap.size) := fun v hv => by
                subst hv
                refine ⟨RR, hOc.same (by rw [heap_set _ (by exact hON), heap_set _ (by exact hON)]), (cell_same (by rw [heap_set _ (by exact hXN), heap_set _ (by exact hXN)])).trans x0, (cell_same (by rw [heap_set _ (by exact hXN), heap_set _ (by exact hXN)])).trans x1, (hb2.setCell (by exact hbN) _).setCell (by exact hbN) _, by simp⟩
              clear RR
              by_cases hmx : m = 9223372036854775807
              · subst hmx
                go_wp2
                go_meet
                case rel => exact HG.out _ (by decide +kernel)
              · have hm3 : m + 1 ≤ 9223372036854775807 := by omega
                go_wp2
                go_meet
                case rel => exact HG.out _ (by unfold mUp; rw [if_neg hmx])
        case rest =>
          obtain ⟨hR3, hO3, y0, y1, hb3, hz3⟩ := hcut
          have hN3 : N < wc.heap.size := by omega
          have hO3' : O < wc.heap.size := by omega
          have hX3 : X < wc.heap.size := by omega
          have hbz3 : base ≤ wc.heap.size := by omega
          clear hRc hOc hSc hb2 hzc hNc hOc' hbzc hbc hXc x0 x1 d1 d2 d3 f2 f3 hz3 ht
          clear w2
          have d1 : wc.cell? ⟨N, 1, none⟩ = some (.slice (some ⟨O, 0, none⟩) L L) := hR3.cell (i := 1) (by omega)
          go_upto_region 18 with (fail)
          obtain ⟨i0, hi0, hz0, hz1, hz2⟩ := info_parts Try.info47
          have hal := (Below.refl wc.heap.size wc).alloc (Nat.le_refl _) (.cells #[.int .u8 (clo c), .bool bf] 47)
          have hO4 : Brs (wc.alloc (.cells #[.int .u8 (clo c), .bool bf] 47)).drew O L z q := hO3.same (hal.block O hO3')
          have hR4 : (wc.alloc (.cells #[.int .u8 (clo c), .bool bf] 47)).drew.rowIs N 50 7 _ := hR3.of_block (hal.block N hN3)
          have hb4 : Below base w (wc.alloc (.cells #[.int .u8 (clo c), .bool bf] 47)).drew := (hb3.alloc hbz3 _).trans ⟨rfl, rfl, rfl, Nat.le_refl _, fun _ _ => rfl⟩
          have HZ4 : Hid ((wc.alloc (.cells #[.int .u8 (clo c), .bool bf] 47)).drew.heap.size = wc.heap.size + 1) := by show (wc.alloc (.cells #[.int .u8 (clo c), .bool bf] 47)).heap.size = wc.heap.size + 1; simp
          have s1 : Hid (∀ b', some (⟨O, 0, none⟩ : Addr) = some b' → ∀ j u, (brl L z q)[j]? = some u → (wc.alloc (.cells #[.int .u8 (clo c), .bool bf] 47)).drew.cell? (b'.add j) = some u) := fun b' hb' j u hu => by
            injection hb' with hb'
            subst hb'
            rw [add0]
            exact brl_cells hO4 j u hu
          have s2 : Hid (∀ j u, [Value.int .u8 (clo c), Value.bool bf][j]? = some u → (wc.alloc (.cells #[.int .u8 (clo c), .bool bf] 47)).drew.cell? ((⟨wc.heap.size, 0, none⟩ : Addr).add j) = some u) :=
            World.news_of_block (blk_alloc_new _ _)
          have s3 : Hid (∀ u ∈ [Value.int .u8 (clo c), Value.bool bf], u.oneCell' = true) := fun u hu => by
            simp at hu
            rcases hu with h | h <;> subst h <;> rfl
          have HR4 : Hid ((wc.alloc (.cells #[.int .u8 (clo c), .bool bf] 47)).drew.rowIs N 50 7 _) := hR4
          have HFin : Hid (∀ (G cap : Nat) (w' : World), w'.ownsRow (wc.alloc (.cells #[.int .u8 (clo c), .bool bf] 47)).drew.heap.size 47 2 (.slice (some ⟨G, 0, none⟩) (L + 1) cap) (L + 1) (brl L z q ++ [.int .u8 (clo c), .bool bf]) → (wc.alloc (.cells #[.int .u8 (clo c), .bool bf] 47)).drew.grownBy w' none →
              Took base w (w'.setCell ⟨N, 1, none⟩ (.slice (some ⟨G, 0, none⟩) (L + 1) cap)) N (.slice (some ⟨S, so, none⟩) sn sn) (.pointer none) 0 (L + 1) (zP L z (clo c)) (qP L q bf) (mO bf m) (bO bf b) d) := fun G cap w' hown hgrow => by
            have hz4 := HZ4.out
            have hR5 := hR4.of_block (hgrow.block N (by omega) (by simp))
            obtain ⟨hG1, hG2⟩ := hown.lt G rfl
            have hgs := hgrow.size
            refine ⟨(hb4.grown hgrow (by omega) (fun k h => by cases h)).setCell (by exact hbN) _, by simp; omega, .inl ⟨rfl, rfl⟩, G, cap, by simp; omega, nf_set1 hR5 _, fun i hi => ?_⟩
            have hg := brl_get (L + 1) (zP L z (clo c)) (qP L q bf) i hi
            have ep : brl (L + 1) (zP L z (clo c)) (qP L q bf) = brl L z q ++ [.int .u8 (clo c), .bool bf] := (brl_push L z q (clo c) bf).symm
            rw [ep] at hg
            have h0 := hown.cells (g := G) rfl _ _ hg.1
            have h1 := hown.cells (g := G) rfl _ _ hg.2
            rw [add0] at h0 h1
            have hGN : G ≠ N := by omega
            exact ⟨(cell_same (heap_set _ (by exact hGN))).trans h0, (cell_same (heap_set _ (by exact hGN))).trans h1⟩
          clear hO4 hR4 hal hb4
          go_region_law (refine step_append_grows rfl (.tmp 112) (.tmp 114) 45 rfl 47 i0 _ 2 2 Try.underlying45 hi0 hz0 hz1 hz2 rfl (by decide) (some ⟨O, 0, none⟩) L L (brl L z q) (by simp [Act.eval]) (fun h => by cases h) (brl_len L z q) s1.out ⟨wc.heap.size, 0, none⟩ 1 1 [.int .u8 (clo c), .bool bf] (by simp [Act.eval]) rfl s2.out s3.out (by omega) (by unfold maxLen; omega) (by omega) ?_; intro v' w' hown hgrow; obtain ⟨G, cap, rfl⟩ := Joins.ownsRow_form hown (by omega); have hR5 := HR4.out.of_block (hgrow.block N (by have := HZ4.out; omega) (by simp)); have n1 : w'.cell? ⟨N, 1, none⟩ = some (.slice (some ⟨O, 0, none⟩) L L) := hR5.cell (i := 1) (by omega); have fz := hR5.frozen 1)
          all_goals (
            have hfin := HFin.out G cap w' hown hgrow
            have HH : Hid (Took base w (w'.setCell ⟨N, 1, none⟩ (.slice (some ⟨G, 0, none⟩) (L + 1) cap)) N (.slice (some ⟨S, so, none⟩) sn sn) (.pointer none) 0 (L + 1) (zP L z (clo c)) (qP L q bf) (mO bf m) (bO bf b) d) := hfin
            clear hfin hown hgrow hR5 n1 fz
            go_wp2
            go_ret2
            exact ⟨_, rfl, HH.out⟩)

end Go.Proofs.Qxb6601609a
