/-
  (*nesting).take at a token that opens a bracket.
-/
import Derived.Test.Qxb6601609aTakA
import Derived.Deep.RegionLawGrows
import Derived.Lib.SmallJoins
namespace Go.Proofs.Qxb6601609a
open Go.RowKit Go.Deep
set_option linter.unusedVariables false

/-- the seven cells of a nesting -/
def nf (s o : Value) (m b d k f : Int) : Nat → Value
  | 0 => s
  | 1 => o
  | 2 => .int .i64 m
  | 3 => .int .i64 b
  | 4 => .int .i64 d
  | 5 => .int .i64 k
  | _ => .int .i64 f

theorem nf_row (s o : Value) (m b d k f : Int) (w : World) : (w.alloc (.cells #[s, o, .int .i64 m, .int .i64 b, .int .i64 d, .int .i64 k, .int .i64 f] 50)).rowIs w.heap.size 50 7 (nf s o m b d k f) :=
  World.rowIs_alloc w #[s, o, .int .i64 m, .int .i64 b, .int .i64 d, .int .i64 k, .int .i64 f] 50 (nf s o m b d k f) (fun i hi => by
    have : i = 0 ∨ i = 1 ∨ i = 2 ∨ i = 3 ∨ i = 4 ∨ i = 5 ∨ i = 6 := by simp at hi; omega
    rcases this with h | h | h | h | h | h | h <;> subst h <;> rfl)
section
variable {w : World} {N : Nat} {s o : Value} {m b d k f : Int}
theorem nf_set1 (h : w.rowIs N 50 7 (nf s o m b d k f)) (v : Value) : (w.setCell ⟨N, 1, none⟩ v).rowIs N 50 7 (nf s v m b d k f) :=
  (h.set 1 v).congr fun i hi => by
    have : i = 0 ∨ i = 1 ∨ i = 2 ∨ i = 3 ∨ i = 4 ∨ i = 5 ∨ i = 6 := by omega
    rcases this with h | h | h | h | h | h | h <;> subst h <;> rfl
theorem nf_set2 (h : w.rowIs N 50 7 (nf s o m b d k f)) (v : Int) : (w.setCell ⟨N, 2, none⟩ (.int .i64 v)).rowIs N 50 7 (nf s o v b d k f) :=
  (h.set 2 _).congr fun i hi => by
    have : i = 0 ∨ i = 1 ∨ i = 2 ∨ i = 3 ∨ i = 4 ∨ i = 5 ∨ i = 6 := by omega
    rcases this with h | h | h | h | h | h | h <;> subst h <;> rfl
theorem nf_set3 (h : w.rowIs N 50 7 (nf s o m b d k f)) (v : Int) : (w.setCell ⟨N, 3, none⟩ (.int .i64 v)).rowIs N 50 7 (nf s o m v d k f) :=
  (h.set 3 _).congr fun i hi => by
    have : i = 0 ∨ i = 1 ∨ i = 2 ∨ i = 3 ∨ i = 4 ∨ i = 5 ∨ i = 6 := by omega
    rcases this with h | h | h | h | h | h | h <;> subst h <;> rfl
theorem nf_set5 (h : w.rowIs N 50 7 (nf s o m b d k f)) (v : Int) : (w.setCell ⟨N, 5, none⟩ (.int .i64 v)).rowIs N 50 7 (nf s o m b d v f) :=
  (h.set 5 _).congr fun i hi => by
    have : i = 0 ∨ i = 1 ∨ i = 2 ∨ i = 3 ∨ i = 4 ∨ i = 5 ∨ i = 6 := by omega
    rcases this with h | h | h | h | h | h | h <;> subst h <;> rfl
theorem nf_set6 (h : w.rowIs N 50 7 (nf s o m b d k f)) (v : Int) : (w.setCell ⟨N, 6, none⟩ (.int .i64 v)).rowIs N 50 7 (nf s o m b d k v) :=
  (h.set 6 _).congr fun i hi => by
    have : i = 0 ∨ i = 1 ∨ i = 2 ∨ i = 3 ∨ i = 4 ∨ i = 5 ∨ i = 6 := by omega
    rcases this with h | h | h | h | h | h | h <;> subst h <;> rfl
end

/-- the brackets' cells: two each -/
def Brs (w : World) (G L : Nat) (z : Nat → Int) (q : Nat → Bool) : Prop := ∀ i, i < L → w.cell? ⟨G, i * 2, none⟩ = some (.int .u8 (z i)) ∧ w.cell? ⟨G, i * 2 + 1, none⟩ = some (.bool (q i))
/-- the error: none, too deep, too many messages -/
def nestT : ByteArray := ⟨#[110, 101, 115, 116, 105, 110, 103]⟩
def msgT : ByteArray := ⟨#[109, 101, 115, 115, 97, 103, 101, 32, 110, 101, 115, 116, 105, 110, 103]⟩
def ErrIs (w : World) (ev : Value) (lim : ByteArray) (got max : Int) : Prop :=
  ∃ E, ev = .pointer (some ⟨E, 0, none⟩) ∧ w.cell? ⟨E, 0, none⟩ = some (.string lim) ∧ w.cell? ⟨E, 1, none⟩ = some (.string ⟨#[]⟩) ∧ w.cell? ⟨E, 2, none⟩ = some (.int .i64 0) ∧ w.cell? ⟨E, 3, none⟩ = some (.int .i64 0) ∧
    w.cell? ⟨E, 4, none⟩ = some (.int .i64 got) ∧ w.cell? ⟨E, 5, none⟩ = some (.int .i64 max)
def ErrK (w : World) (ev : Value) (kind : Nat) : Prop := (kind = 0 ∧ ev = .pointer none) ∨ (kind = 1 ∧ ErrIs w ev nestT 101 100) ∨ (kind = 2 ∧ ErrIs w ev msgT 32 31)

theorem cell_same {w w' : World} {a : Addr} (h : w'.heap[a.block]? = w.heap[a.block]?) : w'.cell? a = w.cell? a := World.cell?_of_block h
theorem Brs.same {w w' : World} {G L : Nat} {z : Nat → Int} {q : Nat → Bool} (hB : Brs w G L z q) (h : w'.heap[G]? = w.heap[G]?) : Brs w' G L z q := fun i hi =>
  ⟨(cell_same (a := ⟨G, i * 2, none⟩) h).trans (hB i hi).1, (cell_same (a := ⟨G, i * 2 + 1, none⟩) h).trans (hB i hi).2⟩
theorem heap_set {w : World} {k : Nat} {a : Addr} (v : Value) (h : k ≠ a.block) : (w.setCell a v).heap[k]? = w.heap[k]? := Below.heap_setCell _ _ _ _ h

/-- what take leaves -/
def Took (base : Nat) (w w' : World) (N : Nat) (src : Value) (ev : Value) (kind L : Nat) (z : Nat → Int) (q : Nat → Bool) (m b d : Int) : Prop :=
  Below base w w' ∧ N < w'.heap.size ∧ ErrK w' ev kind ∧ ∃ G cap, G < w'.heap.size ∧ w'.rowIs N 50 7 (nf src (.slice (some ⟨G, 0, none⟩) L cap) m b d (-1) (-1)) ∧ Brs w' G L z q

/-- a bracket made, behind a draw -/
theorem br_alloc (w : World) (x : Int) (y : Bool) : Below w.heap.size w (w.alloc (.cells #[.int .u8 x, .bool y] 47)).drew ∧ w.heap.size < (w.alloc (.cells #[.int .u8 x, .bool y] 47)).drew.heap.size ∧
    (w.alloc (.cells #[.int .u8 x, .bool y] 47)).drew.cell? ⟨w.heap.size, 0, none⟩ = some (.int .u8 x) ∧ (w.alloc (.cells #[.int .u8 x, .bool y] 47)).drew.cell? ⟨w.heap.size, 1, none⟩ = some (.bool y) := by
  have h0 : (w.alloc (.cells #[.int .u8 x, .bool y] 47)).cell? ⟨w.heap.size, 0, none⟩ = some (.int .u8 x) := by simp
  have h1 : (w.alloc (.cells #[.int .u8 x, .bool y] 47)).cell? ⟨w.heap.size, 1, none⟩ = some (.bool y) := by simp
  have hz : w.heap.size < (w.alloc (.cells #[.int .u8 x, .bool y] 47)).heap.size := by simp
  exact ⟨((Below.refl _ _).alloc (Nat.le_refl _) _).trans ⟨rfl, rfl, rfl, Nat.le_refl _, fun _ _ => rfl⟩, hz, h0, h1⟩

set_option maxRecDepth 100000 in
set_option maxHeartbeats 1000000 in
theorem take30a (base N S so sn O L st en : Nat) (c m b d k f : Int) (z : Nat → Int) (q : Nat → Bool) (w : World) (hbN : base ≤ N) (hbz : base ≤ w.heap.size) (hON : O ≠ N) (hSN : S ≠ N)
    (hst : st < en) (hen : en ≤ sn) (hsn : sn ≤ 1048576) (hL : L ≤ 1048576) (hc : clo c ≠ 0) (hR : w.rowIs N 50 7 (nf (.slice (some ⟨S, so, none⟩) sn sn) (.slice (some ⟨O, 0, none⟩) L L) m b d k f))
    (hO : Brs w O L z q) (hOl : O < w.heap.size) (hS : w.cell? ⟨S, so + st, none⟩ = some (.int .u8 c)) (h100 : L = 100) :
    Calls Try.prog 30 #[.pointer (some ⟨N, 0, none⟩), .int .i64 st, .int .i64 en] w fun e w' => ∃ ev, e = .returned (.tuple #[.int .i64 st, ev]) ∧ Took base w w' N (.slice (some ⟨S, so, none⟩) sn sn) ev 1 L z q m b d := by
  have hNl := hR.lt
  have c0 : w.cell? ⟨N, 0, none⟩ = some (.slice (some ⟨S, so, none⟩) sn sn) := hR.cell (i := 0) (by omega)
  have c5 : w.cell? ⟨N, 5, none⟩ = some (.int .i64 k) := hR.cell (i := 5) (by omega)
  have c6 : w.cell? ⟨N, 6, none⟩ = some (.int .i64 f) := hR.cell (i := 6) (by omega)
  go_enter Try.func30, Try.ntmps30
  go_upto_region 2 with (fail)
  go_quiet (fail)
  have hbq := below_drewN (Below.refl base w) nq
  have hRq : (w.drewN nq).rowIs N 50 7 (nf (.slice (some ⟨S, so, none⟩) sn sn) (.slice (some ⟨O, 0, none⟩) L L) m b d k f) := hR
  have hOq : Brs (w.drewN nq) O L z q := hO
  have hSq : (w.drewN nq).cell? ⟨S, so + st, none⟩ = some (.int .u8 c) := hS
  have hzq : (w.drewN nq).heap.size = w.heap.size := rfl
  generalize w.drewN nq = wq at *
  clear c0 c5 c6 hR hO hS
  have c5 : wq.cell? ⟨N, 5, none⟩ = some (.int .i64 k) := hRq.cell (i := 5) (by omega)
  have c6 : wq.cell? ⟨N, 6, none⟩ = some (.int .i64 f) := hRq.cell (i := 6) (by omega)
  have f5 := hRq.frozen 5
  have f6 := hRq.frozen 6
  go_upto_region 4 with (fail)
  have hR1 := nf_set6 (nf_set5 hRq (-1)) (-1)
  have hO1 : Brs ((wq.setCell ⟨N, 5, none⟩ (.int .i64 (-1))).setCell ⟨N, 6, none⟩ (.int .i64 (-1))) O L z q := hOq.same (by rw [heap_set _ (by exact hON), heap_set _ (by exact hON)])
  have hS1 : ((wq.setCell ⟨N, 5, none⟩ (.int .i64 (-1))).setCell ⟨N, 6, none⟩ (.int .i64 (-1))).cell? ⟨S, so + st, none⟩ = some (.int .u8 c) := (cell_same (by rw [heap_set _ (by exact hSN), heap_set _ (by exact hSN)])).trans hSq
  have hb1 : Below base w ((wq.setCell ⟨N, 5, none⟩ (.int .i64 (-1))).setCell ⟨N, 6, none⟩ (.int .i64 (-1))) := (hbq.setCell (by exact hbN) _).setCell (by exact hbN) _
  have HZ1 : Hid (((wq.setCell ⟨N, 5, none⟩ (.int .i64 (-1))).setCell ⟨N, 6, none⟩ (.int .i64 (-1))).heap.size = w.heap.size) := by show _ = _; simp [hzq]
  generalize (wq.setCell ⟨N, 5, none⟩ (.int .i64 (-1))).setCell ⟨N, 6, none⟩ (.int .i64 (-1)) = w1 at *
  clear c5 c6 f5 f6 hRq hOq hSq hbq hzq
  have C := closer27 c w1
  have hcl : (clo c == 0) = false := by simpa using hc
  have hcn : (clo c != 0) = true := by simpa using hc
  go_wp2_with fail
  refine C.mono ?_; clear C
  rintro e w1 ⟨rfl, rfl⟩
  have d1 : w1.cell? ⟨N, 1, none⟩ = some (.slice (some ⟨O, 0, none⟩) L L) := hR1.cell (i := 1) (by omega)
  have d2 : w1.cell? ⟨N, 2, none⟩ = some (.int .i64 m) := hR1.cell (i := 2) (by omega)
  have d3 : w1.cell? ⟨N, 3, none⟩ = some (.int .i64 b) := hR1.cell (i := 3) (by omega)
  have d4 : w1.cell? ⟨N, 4, none⟩ = some (.int .i64 d) := hR1.cell (i := 4) (by omega)
  subst h100
  have hz1 := HZ1.out
  have hNl1 : N < w1.heap.size := by omega
  have hOl1 : O < w1.heap.size := by omega
  have hbz1 : base ≤ w1.heap.size := by omega
  clear hz1
  go_wp2
  go_ret2
  have hal := (Below.refl w1.heap.size w1).alloc (Nat.le_refl _) (.cells #[.string nestT, .string ⟨#[]⟩, .int .i64 0, .int .i64 0, .int .i64 101, .int .i64 100] 38)
  refine ⟨_, rfl, hb1.alloc hbz1 _, by simp; omega, .inr (.inl ⟨rfl, _, rfl, ?_⟩), O, 100, by simp; omega, hR1.alloc _, ?_⟩
  · simp [nestT]
  · exact hO1.same (hal.block O hOl1)

set_option maxRecDepth 100000 in
set_option maxHeartbeats 1000000 in
theorem take30b (base N S so sn O L st en : Nat) (c m b d k f : Int) (z : Nat → Int) (q : Nat → Bool) (w : World) (hbN : base ≤ N) (hbz : base ≤ w.heap.size) (hON : O ≠ N) (hSN : S ≠ N)
    (hst : st < en) (hen : en ≤ sn) (hsn : sn ≤ 1048576) (hL : L ≤ 1048576) (hc : clo c ≠ 0) (hR : w.rowIs N 50 7 (nf (.slice (some ⟨S, so, none⟩) sn sn) (.slice (some ⟨O, 0, none⟩) L L) m b d k f))
    (hO : Brs w O L z q) (hOl : O < w.heap.size) (hS : w.cell? ⟨S, so + st, none⟩ = some (.int .u8 c)) (h100 : L ≠ 100) (hm : m = 31) (at_ : Int) (hat : (c = 123 ∧ b = L ∧ at_ = d) ∨ (c = 60 ∧ 0 ≤ f ∧ at_ = f)) :
    Calls Try.prog 30 #[.pointer (some ⟨N, 0, none⟩), .int .i64 st, .int .i64 en] w fun e w' => ∃ ev, e = .returned (.tuple #[.int .i64 at_, ev]) ∧ Took base w w' N (.slice (some ⟨S, so, none⟩) sn sn) ev 2 L z q m b d := by
  have hNl := hR.lt
  have c0 : w.cell? ⟨N, 0, none⟩ = some (.slice (some ⟨S, so, none⟩) sn sn) := hR.cell (i := 0) (by omega)
  have c5 : w.cell? ⟨N, 5, none⟩ = some (.int .i64 k) := hR.cell (i := 5) (by omega)
  have c6 : w.cell? ⟨N, 6, none⟩ = some (.int .i64 f) := hR.cell (i := 6) (by omega)
  go_enter Try.func30, Try.ntmps30
  go_upto_region 2 with (fail)
  go_quiet (fail)
  have hbq := below_drewN (Below.refl base w) nq
  have hRq : (w.drewN nq).rowIs N 50 7 (nf (.slice (some ⟨S, so, none⟩) sn sn) (.slice (some ⟨O, 0, none⟩) L L) m b d k f) := hR
  have hOq : Brs (w.drewN nq) O L z q := hO
  have hSq : (w.drewN nq).cell? ⟨S, so + st, none⟩ = some (.int .u8 c) := hS
  have hzq : (w.drewN nq).heap.size = w.heap.size := rfl
  generalize w.drewN nq = wq at *
  clear c0 c5 c6 hR hO hS
  have c5 : wq.cell? ⟨N, 5, none⟩ = some (.int .i64 k) := hRq.cell (i := 5) (by omega)
  have c6 : wq.cell? ⟨N, 6, none⟩ = some (.int .i64 f) := hRq.cell (i := 6) (by omega)
  have f5 := hRq.frozen 5
  have f6 := hRq.frozen 6
  go_upto_region 4 with (fail)
  have hR1 := nf_set6 (nf_set5 hRq (-1)) (-1)
  have hO1 : Brs ((wq.setCell ⟨N, 5, none⟩ (.int .i64 (-1))).setCell ⟨N, 6, none⟩ (.int .i64 (-1))) O L z q := hOq.same (by rw [heap_set _ (by exact hON), heap_set _ (by exact hON)])
  have hS1 : ((wq.setCell ⟨N, 5, none⟩ (.int .i64 (-1))).setCell ⟨N, 6, none⟩ (.int .i64 (-1))).cell? ⟨S, so + st, none⟩ = some (.int .u8 c) := (cell_same (by rw [heap_set _ (by exact hSN), heap_set _ (by exact hSN)])).trans hSq
  have hb1 : Below base w ((wq.setCell ⟨N, 5, none⟩ (.int .i64 (-1))).setCell ⟨N, 6, none⟩ (.int .i64 (-1))) := (hbq.setCell (by exact hbN) _).setCell (by exact hbN) _
  have HZ1 : Hid (((wq.setCell ⟨N, 5, none⟩ (.int .i64 (-1))).setCell ⟨N, 6, none⟩ (.int .i64 (-1))).heap.size = w.heap.size) := by show _ = _; simp [hzq]
  generalize (wq.setCell ⟨N, 5, none⟩ (.int .i64 (-1))).setCell ⟨N, 6, none⟩ (.int .i64 (-1)) = w1 at *
  clear c5 c6 f5 f6 hRq hOq hSq hbq hzq
  have C := closer27 c w1
  have hcl : (clo c == 0) = false := by simpa using hc
  have hcn : (clo c != 0) = true := by simpa using hc
  go_wp2_with fail
  refine C.mono ?_; clear C
  rintro e w1 ⟨rfl, rfl⟩
  have d1 : w1.cell? ⟨N, 1, none⟩ = some (.slice (some ⟨O, 0, none⟩) L L) := hR1.cell (i := 1) (by omega)
  have d2 : w1.cell? ⟨N, 2, none⟩ = some (.int .i64 m) := hR1.cell (i := 2) (by omega)
  have d3 : w1.cell? ⟨N, 3, none⟩ = some (.int .i64 b) := hR1.cell (i := 3) (by omega)
  have d4 : w1.cell? ⟨N, 4, none⟩ = some (.int .i64 d) := hR1.cell (i := 4) (by omega)
  have hz1 := HZ1.out
  have hNl1 : N < w1.heap.size := by omega
  have hOl1 : O < w1.heap.size := by omega
  have hbz1 : base ≤ w1.heap.size := by omega
  clear hz1
  have h1b : (((L : Nat) : Int) == 100) = false := by simp; omega
  subst hm
  have hal := (Below.refl w1.heap.size w1).alloc (Nat.le_refl _) (.cells #[.int .u8 (clo c), .bool (decide (c = 123))] 47)
  have h0en : 0 < en - st := by omega
  have hAl := (Below.refl w1.heap.size w1).alloc (Nat.le_refl _) (.cells #[.int .u8 0, .bool false] 47)
  have sA : (w1.alloc (.cells #[.int .u8 0, .bool false] 47)).drew.cell? ⟨S, so + st, none⟩ = some (.int .u8 c) := cell_ext (Nat.le_refl _) hAl hS1
  have nA1 : (w1.alloc (.cells #[.int .u8 0, .bool false] 47)).drew.cell? ⟨N, 1, none⟩ = some (.slice (some ⟨O, 0, none⟩) L L) := cell_ext (Nat.le_refl _) hAl d1
  have nA3 : (w1.alloc (.cells #[.int .u8 0, .bool false] 47)).drew.cell? ⟨N, 3, none⟩ = some (.int .i64 b) := cell_ext (Nat.le_refl _) hAl d3
  have sB : w1.drew.cell? ⟨S, so + st, none⟩ = some (.int .u8 c) := hS1
  have nB1 : w1.drew.cell? ⟨N, 1, none⟩ = some (.slice (some ⟨O, 0, none⟩) L L) := d1
  have nB3 : w1.drew.cell? ⟨N, 3, none⟩ = some (.int .i64 b) := d3
  clear hAl
  go_upto_region 8 with (fail)
  go_cut [12] from 14 to 238 (fun v wc => v = .pointer (some ⟨w1.heap.size, 0, none⟩) ∧ Below w1.heap.size w1 wc ∧ w1.heap.size < wc.heap.size ∧ wc.cell? ⟨w1.heap.size, 0, none⟩ = some (.int .u8 (clo c)) ∧ wc.cell? ⟨w1.heap.size, 1, none⟩ = some (.bool (decide (c = 123))))
  case first =>
    rcases hat with ⟨rfl, rfl, rfl⟩ | ⟨rfl, hf, rfl⟩
    · go_region
      go_wp2
      go_meet
      case rel => exact ⟨rfl, br_alloc w1 (clo 123) true⟩
    · go_region
      go_wp2
      go_meet
      case rel => exact ⟨rfl, br_alloc w1 (clo 60) false⟩
  case rest =>
    obtain ⟨rfl, hbc, hXc, x0, x1⟩ := hcut
    have hRc : wc.rowIs N 50 7 _ := hR1.of_block (hbc.block N hNl1)
    have hOc := hO1.same (hbc.block O hOl1)
    have hSc := cell_ext (Nat.le_refl _) hbc hS1
    have hb2 := hb1.trans (hbc.mono hbz1)
    have hzc := hbc.size
    clear sA nA1 nA3 sB nB1 nB3 d1 d2 d3 d4 hal
    have d2 : wc.cell? ⟨N, 2, none⟩ = some (.int .i64 31) := hRc.cell (i := 2) (by omega)
    have d4 : wc.cell? ⟨N, 4, none⟩ = some (.int .i64 d) := hRc.cell (i := 4) (by omega)
    have hal2 := (Below.refl wc.heap.size wc).alloc (Nat.le_refl _) (.cells #[.string msgT, .string ⟨#[]⟩, .int .i64 0, .int .i64 0, .int .i64 32, .int .i64 31] 38)
    have fin : ∀ ev, ev = .pointer (some ⟨wc.heap.size, 0, none⟩) → Took base w (wc.alloc (.cells #[.string msgT, .string ⟨#[]⟩, .int .i64 0, .int .i64 0, .int .i64 32, .int .i64 31] 38)) N (.slice (some ⟨S, so, none⟩) sn sn) ev 2 L z q 31 b d := fun ev hev => by
      refine ⟨hb2.alloc (by omega) _, by simp; omega, .inr (.inr ⟨rfl, _, hev, ?_⟩), O, L, by simp; omega, hRc.alloc _, ?_⟩
      · simp
      · exact hOc.same (hal2.block O (by omega))
    have hNc : N < wc.heap.size := by omega
    have d4' : (wc.alloc (.cells #[.string ⟨#[109, 101, 115, 115, 97, 103, 101, 32, 110, 101, 115, 116, 105, 110, 103]⟩, .string ⟨#[]⟩, .int .i64 0, .int .i64 0, .int .i64 32, .int .i64 31] 38)).cell? ⟨N, 4, none⟩ = some (.int .i64 d) := cell_ext (Nat.le_refl _) hal2 d4
    have HF : Hid (∀ ev, ev = .pointer (some ⟨wc.heap.size, 0, none⟩) → Took base w (wc.alloc (.cells #[.string msgT, .string ⟨#[]⟩, .int .i64 0, .int .i64 0, .int .i64 32, .int .i64 31] 38)) N (.slice (some ⟨S, so, none⟩) sn sn) ev 2 L z q 31 b d) := fin
    clear fin hal2
    rcases hat with ⟨rfl, hbL, rfl⟩ | ⟨rfl, hf, rfl⟩
    · have hdd : decide ((123 : Int) = 123) = true := by decide
      rw [hdd] at x1
      clear hbL hdd
      go_wp2
      go_ret2
      exact ⟨_, rfl, HF.out _ rfl⟩
    · have hdd : decide ((60 : Int) = 123) = false := by decide
      rw [hdd] at x1
      clear hdd
      go_wp2
      go_ret2
      exact ⟨_, rfl, HF.out _ rfl⟩

end Go.Proofs.Qxb6601609a
