/-
  Copies: 'if xs != nil { c := make(..); copy(c, xs); xs = c }'. Own work.
-/
import Derived.Test.Qxb6601511aLogC
import Derived.Laws.CopyOwn
namespace Go.Proofs.Qxb6601511a
open Go.RowKit

/-- a slice that came in: its first len cells hold the numbers z -/
def Src (k : IntKind) (w : World) (a : Option Addr) (len : Nat) (z : Nat → Int) : Prop :=
  (a = none → len = 0) ∧ ∀ x, a = some x → ∀ i, i < len → w.cell? (x.add i) = some (.int k (z i))

theorem Src.below {k : IntKind} {w w' : World} {a : Option Addr} {len : Nat} {z : Nat → Int} {H : Nat} (h : Src k w a len z) (hH : w.heap.size ≤ H) (hb : Below H w w') : Src k w' a len z := by
  refine ⟨h.1, fun x hx i hi => ?_⟩
  have hc := h.2 x hx i hi
  rw [hb.cell (Nat.lt_of_lt_of_le (block_lt_of_cell hc) hH)]
  exact hc

/-- a slice value whose elements are the numbers z, in a block of the call's own from H on -/
def Cp (H : Nat) (k : IntKind) (t : TypeId) (w : World) (v : Value) (n : Nat) (z : Nat → Int) : Prop :=
  ∃ a c, v = .slice a n c ∧ (0 < n → ∃ b, a = some ⟨b, 0, none⟩ ∧ H ≤ b ∧ b < w.heap.size ∧ w.rowIs b t n (fun i => .int k (z i)))

theorem Cp.below {H : Nat} {k : IntKind} {t : TypeId} {w w' : World} {v : Value} {n : Nat} {z : Nat → Int} (h : Cp H k t w v n z) (hb : Below w.heap.size w w') : Cp H k t w' v n z := by
  obtain ⟨a, c, hv, h⟩ := h
  refine ⟨a, c, hv, fun hn => ?_⟩
  obtain ⟨b, ha, h1, h2, h3⟩ := h hn
  exact ⟨b, ha, h1, Nat.lt_of_lt_of_le h2 hb.size, row_same h3 hb h2⟩

/-- copy(c, xs) into a row of the call's own that is as long: the run's equation, the world behind it under a name -/
theorem run_copy_rows {P : Program} (w : World) (dT sT ty elem : TypeId) (hu : P.underlying dT = some (.slice elem)) (hsz : (P.info? elem).map (·.size) = some 1)
    (sp : Option Addr) (g n sCap : Nat) (t : TypeId) (f : Nat → Value) (k : IntKind) (z : Nat → Int) (row : w.rowIs g t n f) (src : Src k w sp n z) :
    ∃ w', (Builtin.copy_ #[dT, sT] ty #[.slice (some ⟨g, 0, none⟩) n n, .slice sp n sCap]).run P w = .ok (.int .i64 n) w' ∧ w'.rowIs g t n (fun i => .int k (z i)) ∧ w'.heap.size = w.heap.size ∧
      ∀ B w0, Below B w0 w → B ≤ g → Below B w0 w' := by
  obtain ⟨c, hc, hcn, hcc⟩ := row
  by_cases hn : n = 0
  · subst hn
    refine ⟨w, run_copy_none w dT sT ty elem _ _ 0 0 0 sCap hu hsz (by simp), ⟨c, hc, hcn, fun i hi => by omega⟩, rfl, fun B w0 h _ => h⟩
  · cases sp with
    | none => have := src.1 rfl; omega
    | some ad =>
      have hl : ((List.range n).map fun i => Value.int k (z i)).length = n := by simp
      have hr := run_copy_row (P := P) w dT sT ty elem g 0 n n ad n sCap c t ((List.range n).map fun i => Value.int k (z i)) hu hsz hc (by simp) ?_ (by simp [hcn]) ?_
      · rw [hl] at hr
        refine ⟨_, hr, ⟨_, setRow_heap w g c _ t (0, 0) hc, ?_, ?_⟩, by simp, fun B w0 h hB => below_setRow h hB _⟩
        · simp [hcn]
        · intro i hi
          simp [hcn, hi]
      · intro j v hv
        simp only [List.getElem?_map, Option.map_eq_some_iff] at hv
        by_cases hj : j < n
        · rw [List.getElem?_range hj] at hv
          obtain ⟨x, hx, rfl⟩ := hv
          simp at hx; subst hx
          exact src.2 ad rfl j hj
        · rw [List.getElem?_eq_none (by simpa using Nat.le_of_not_lt hj)] at hv
          simp at hv
      · intro v hv
        simp at hv
        obtain ⟨i, _, rfl⟩ := hv
        rfl

/-- make and copy together -/
theorem run_make_copy {P : Program} (w : World) (T E : TypeId) (kd : IntKind) (hu : P.underlying T = some (.slice E)) (hsz : (P.info? E).map (·.size) = some 1)
    (sp : Option Addr) (n sCap : Nat) (z : Nat → Int) (src : Src kd w sp n z) :
    ∃ w', (Builtin.copy_ #[T, T] 3 #[.slice (some ⟨w.heap.size, 0, none⟩) n n, .slice sp n sCap]).run P (w.alloc (.cells (madeCells #[.int kd 0] n) E)) = .ok (.int .i64 n) w' ∧
      Cp w.heap.size kd E w' (.slice (some ⟨w.heap.size, 0, none⟩) n n) n z ∧ Below w.heap.size w w' := by
  have hb := (Below.refl w.heap.size w).alloc (Nat.le_refl _) (.cells (madeCells #[.int kd 0] n) E)
  obtain ⟨w', h1, h2, h3, h4⟩ := run_copy_rows (P := P) (w.alloc (.cells (madeCells #[.int kd 0] n) E)) T T 3 E hu hsz sp w.heap.size n sCap E _ kd z (World.rowIs_made w (.int kd 0) n E) (src.below (Nat.le_refl _) hb)
  refine ⟨w', h1, ⟨_, _, rfl, fun _ => ⟨_, rfl, Nat.le_refl _, ?_, h2⟩⟩, h4 _ _ hb (Nat.le_refl _)⟩
  rw [h3]; simp

end Go.Proofs.Qxb6601511a
