/-
  Contracts: ZZFaultParts, zzFromFaults.
-/
import Derived.Test.Qxb6601521aHistC
namespace Go.Proofs.Qxb6601521a
open Go.RowKit Go.Deep

/-- component c of a fault -/
def Flt.get (f : Flt) (c : Nat) : Int := if c = 0 then f.kind else if c = 1 then f.at_ else if c = 2 then f.asked else f.call
def Flt.zero : Flt := ⟨0, 0, 0, 0⟩
def fget (F : List Flt) (i c : Nat) : Int := (F.getD i Flt.zero).get c
/-- cells of a row of faults of the laws' own type -/
def frow (F : List Flt) : Nat → Value := fun o => .int .i64 (fget F (o / 4) (o % 4))

theorem fcell_get (f : Flt) (c : Nat) (hc : c < 4) : (fcell f)[c]? = some (.int .i64 (f.get c)) := by
  have : c = 0 ∨ c = 1 ∨ c = 2 ∨ c = 3 := by omega
  rcases this with h | h | h | h <;> subst h <;> rfl
theorem fcells_get : ∀ (F : List Flt) (i c : Nat), i < F.length → c < 4 → (fcells F)[i * 4 + c]? = some (.int .i64 (fget F i c)) := by
  intro F
  induction F with
  | nil => intro i c h; simp at h
  | cons f F ih =>
    intro i c hi hc
    have e : fcells (f :: F) = fcell f ++ fcells F := rfl
    rw [e]
    cases i with
    | zero =>
      rw [show 0 * 4 + c = c by omega, List.getElem?_append_left (by simpa [fcell] using hc), fcell_get f c hc]
      rfl
    | succ i =>
      rw [List.getElem?_append_right (by simp [fcell]; omega)]
      have : (i + 1) * 4 + c - (fcell f).length = i * 4 + c := by simp [fcell]; omega
      rw [this, ih i c (by simpa using hi) hc]
      rfl

/-- a fault's four cells in the slice v -/
theorem Flts.cell {w : World} {base g n cap : Nat} {F : List Flt} (h : Flts w base (.slice (some ⟨g, 0, none⟩) n cap) F) (i c : Nat) (hi : i < F.length) (hc : c < 4) : w.cell? ⟨g, i * 4 + c, none⟩ = some (.int .i64 (fget F i c)) := by
  have := h.1.cells (g := g) rfl (i * 4 + c) _ (fcells_get F i c hi hc)
  have e : (⟨g, 0, none⟩ : Addr).add (i * 4 + c) = ⟨g, i * 4 + c, none⟩ := by unfold Addr.add; split <;> simp_all
  rwa [e] at this
/-- nil, or a slice with as many elements -/
theorem Flts.form {w : World} {base : Nat} {v : Value} {F : List Flt} (h : Flts w base v F) : (F = [] ∧ v = .slice none 0 0) ∨ (F ≠ [] ∧ ∃ g cap, v = .slice (some ⟨g, 0, none⟩) F.length cap ∧ base ≤ g ∧ g < w.heap.size) := by
  by_cases hF : F = []
  · exact .inl ⟨hF, h.2 hF⟩
  · exact .inr ⟨hF, h.1.form (List.length_pos_iff.2 hF)⟩

set_option maxHeartbeats 400000 in
theorem parts31 (k a b c : Int) (w : World) : Calls Try.prog 31 #[.agg #[.int .i64 k, .int .i64 a, .int .i64 b, .int .i64 c]] w fun e w' => e = .returned (.tuple #[.int .i64 k, .int .i64 a, .int .i64 b, .int .i64 c]) ∧ Below w.heap.size w w' := by
  go_enter Try.func31, Try.ntmps31
  go_wp2
  go_quiet (fail)
  go_wp2
  exact bodyPost_ret (v := .tuple #[.int .i64 k, .int .i64 a, .int .i64 b, .int .i64 c]) (by simp [results, Try.results31, go_sem]) rfl ⟨rfl, below_drewN ((Below.refl _ _).alloc (Nat.le_refl _) _) _⟩

theorem Try.info40 : (Try.prog.info? 40).map (fun i => (i.zero, i.size, i.bytes)) = some (some (.agg #[.int .i64 0, .int .i64 0, .int .i64 0, .int .i64 0]), 4, 32) := by kernel_rfl
theorem run_make25 (n : Nat) (hn : n ≤ 4398046511104) (kl kc : IntKind) (w : World) :
    (Instr.makeSlice 25 (.int kl (n : Int)) (.int kc (n : Int))).run Try.prog w = .ok (.slice (some ⟨w.heap.size, 0, none⟩) n n) (w.alloc (.cells (madeCells #[.int .i64 0, .int .i64 0, .int .i64 0, .int .i64 0] (n * 4)) 40)) := by
  obtain ⟨i, hi, hzz⟩ := Option.map_eq_some_iff.1 Try.info40
  simp only [Prod.mk.injEq] at hzz
  obtain ⟨hz, hs, hb⟩ := hzz
  have hr := run_make (P := Try.prog) w 25 40 i _ Try.underlying25 hi hz kl kc n n (by omega) (Int.le_refl _) (by rw [hb]; omega) (by omega)
  simp only [Int.toNat_natCast, hs, Value.cells] at hr
  exact hr
theorem made40 (w : World) (n : Nat) : (w.alloc (.cells (madeCells #[.int .i64 0, .int .i64 0, .int .i64 0, .int .i64 0] (n * 4)) 40)).rowIs w.heap.size 40 (n * 4) (frow []) := by
  have h := World.rowIs_alloc w (madeCells #[.int .i64 0, .int .i64 0, .int .i64 0, .int .i64 0] (n * 4)) 40 (frow []) ?_
  · rw [size_madeCells] at h; exact h
  · intro i hi
    rw [size_madeCells] at hi
    have hz : fget [] (i / 4) (i % 4) = 0 := by unfold fget; simp [Flt.zero, Flt.get]
    have : i % 4 = 0 ∨ i % 4 = 1 ∨ i % 4 = 2 ∨ i % 4 = 3 := by omega
    rcases this with h | h | h | h <;> simp [madeCells, hi, frow, h, ← hz] <;> rw [h] at hz <;> simp [hz]

/-- the laws' own slice of faults -/
def ZFs (w : World) (H : Nat) (r : Value) (F : List Flt) : Prop :=
  (F = [] ∧ r = .slice none 0 0) ∨ (F ≠ [] ∧ ∃ g cap, r = .slice (some ⟨g, 0, none⟩) F.length cap ∧ H ≤ g ∧ g < w.heap.size ∧ ∀ i c, i < F.length → c < 4 → w.cell? ⟨g, i * 4 + c, none⟩ = some (.int .i64 (fget F i c)))

theorem ZFs.ext {w w' : World} {H : Nat} {r : Value} {F : List Flt} (h : ZFs w H r F) {B : Nat} (hB : w.heap.size ≤ B) (hb : Below B w w') : ZFs w' H r F := by
  rcases h with h | ⟨h0, g, cap, h1, h2, h3, h4⟩
  · exact .inl h
  · exact .inr ⟨h0, g, cap, h1, h2, Nat.lt_of_lt_of_le h3 hb.size, fun i c hi hc => cell_ext hB hb (h4 i c hi hc)⟩

theorem frow_put {w : World} {B N : Nat} {E : Nat → Nat → Int} (h : w.rowIs B 40 N (fun o => .int .i64 (E (o / 4) (o % 4)))) (k : Nat) (v0 v1 v2 v3 : Int) :
    ((((w.setCell ⟨B, k * 4, none⟩ (.int .i64 v0)).setCell ⟨B, k * 4 + 1, none⟩ (.int .i64 v1)).setCell ⟨B, k * 4 + 2, none⟩ (.int .i64 v2)).setCell ⟨B, k * 4 + 3, none⟩ (.int .i64 v3)).rowIs B 40 N
      (fun o => .int .i64 (if o / 4 = k then (if o % 4 = 0 then v0 else if o % 4 = 1 then v1 else if o % 4 = 2 then v2 else v3) else E (o / 4) (o % 4))) := by
  refine ((((h.set _ _).set _ _).set _ _).set _ _).congr fun i _ => ?_
  by_cases hk : i / 4 = k
  · have : i = k * 4 ∨ i = k * 4 + 1 ∨ i = k * 4 + 2 ∨ i = k * 4 + 3 := by omega
    rcases this with h | h | h | h
    · subst h; simp
    · subst h
      have e1 : (k * 4 + 1) % 4 = 1 := by omega
      simp [hk]
    · subst h
      have e1 : (k * 4 + 2) % 4 = 2 := by omega
      simp [hk]
    · subst h
      have e1 : (k * 4 + 3) % 4 = 3 := by omega
      simp [hk]
  · have a0 : ¬ i = k * 4 := by omega
    have a1 : ¬ i = k * 4 + 1 := by omega
    have a2 : ¬ i = k * 4 + 2 := by omega
    have a3 : ¬ i = k * 4 + 3 := by omega
    simp [a0, a1, a2, a3, hk]

set_option maxRecDepth 100000 in
set_option maxHeartbeats 1000000 in
theorem from11 (base : Nat) (v : Value) (F : List Flt) (w : World) (hF : Flts w base v F) (hl : F.length ≤ 4398046511104) :
    Calls Try.prog 11 #[v] w fun e w' => ∃ r, e = .returned r ∧ Below w.heap.size w w' ∧ ZFs w' w.heap.size r F := by
  have e27 := fun w a n c n' c' => Lib.run_eql_slice_nil (P := Try.prog) w 27 _ a n c n' c' Try.underlying27
  rcases hF.form with ⟨hn, rfl⟩ | ⟨hn, g, cap, rfl, hg1, hg2⟩
  · clear hF
    go_enter Try.func11, Try.ntmps11
    go_wp2
    go_ret
    exact ⟨_, rfl, Below.refl _ _, .inl ⟨hn, rfl⟩⟩
  · have hmk := run_make25 F.length hl
    have hc : Hid (∀ i c, i < F.length → c < 4 → w.cell? ⟨g, i * 4 + c, none⟩ = some (.int .i64 (fget F i c))) := fun i c hi hc => hF.cell i c hi hc
    have M := made40 w F.length
    have B1 := (Below.refl w.heap.size w).alloc (Nat.le_refl _) (.cells (madeCells #[.int .i64 0, .int .i64 0, .int .i64 0, .int .i64 0] (F.length * 4)) 40)
    clear hF
    go_enter Try.func11, Try.ntmps11
    go_upto_region 4 with (fail)
    generalize w.alloc (.cells (madeCells #[.int .i64 0, .int .i64 0, .int .i64 0, .int .i64 0] (F.length * 4)) 40) = w1 at *
    clear hmk e27
    go_wp2
    go_loopw [4] (fun t wr => ∃ k : Nat, k ≤ F.length ∧ t = .int .i64 k ∧ Below w.heap.size w wr ∧ wr.rowIs w.heap.size 40 (F.length * 4) (fun o => .int .i64 (if o / 4 < k then fget F (o / 4) (o % 4) else fget [] (o / 4) (o % 4)))) (fun t _ => F.length - (intOf t).toNat)
    case atStart => exact ⟨0, Nat.zero_le _, rfl, B1, M.congr fun o _ => by simp [frow]⟩
    case round =>
      obtain ⟨k, hk, rfl, hb, hR⟩ := hrel
      by_cases hlt : k < F.length
      · have g0 : wr.cell? ⟨g, k * 4, none⟩ = some (.int .i64 (fget F k 0)) := (hb.cell (p := ⟨g, k * 4, none⟩) hg2).trans (hc.out k 0 hlt (by omega))
        have g1 : wr.cell? ⟨g, k * 4 + 1, none⟩ = some (.int .i64 (fget F k 1)) := (hb.cell (p := ⟨g, k * 4 + 1, none⟩) hg2).trans (hc.out k 1 hlt (by omega))
        have g2 : wr.cell? ⟨g, k * 4 + 2, none⟩ = some (.int .i64 (fget F k 2)) := (hb.cell (p := ⟨g, k * 4 + 2, none⟩) hg2).trans (hc.out k 2 hlt (by omega))
        have g3 : wr.cell? ⟨g, k * 4 + 3, none⟩ = some (.int .i64 (fget F k 3)) := (hb.cell (p := ⟨g, k * 4 + 3, none⟩) hg2).trans (hc.out k 3 hlt (by omega))
        go_wp2_with fail
        have C := parts31 (fget F k 0) (fget F k 1) (fget F k 2) (fget F k 3) wr
        refine C.mono ?_
        clear C
        rintro e w2 ⟨rfl, hb2⟩
        have hR2 := row_ext hR hb2 hR.lt
        have hbb := hb.trans (hb2.mono hb.size)
        clear hb2 g0 g1 g2 g3
        have q0 := hR2.cell (i := k * 4) (by omega)
        have q1 := hR2.cell (i := k * 4 + 1) (by omega)
        have q2 := hR2.cell (i := k * 4 + 2) (by omega)
        have q3 := hR2.cell (i := k * 4 + 3) (by omega)
        have z0 := hR2.frozen (k * 4)
        have z1 := hR2.frozen (k * 4 + 1)
        have z2 := hR2.frozen (k * 4 + 2)
        have z3 := hR2.frozen (k * 4 + 3)
        have R := frow_put (E := fun p c => if p < k then fget F p c else fget [] p c) hR2 k (fget F k 0) (fget F k 1) (fget F k 2) (fget F k 3)
        go_wp2
        go_roundw
        case rel =>
          refine ⟨k + 1, by omega, by go_num, (((hbb.setCell (Nat.le_refl _) _).setCell (Nat.le_refl _) _).setCell (Nat.le_refl _) _).setCell (Nat.le_refl _) _, R.congr fun o ho => ?_⟩
          by_cases e : o / 4 = k
          · have h4 : o % 4 = 0 ∨ o % 4 = 1 ∨ o % 4 = 2 ∨ o % 4 = 3 := by omega
            have hk1 : o / 4 < k + 1 := by omega
            simp only [if_pos e, if_pos hk1]
            rcases h4 with h | h | h | h <;> simp [h, e]
          · have : o / 4 < k + 1 ↔ o / 4 < k := by omega
            simp [e, this]
        case measure => simp [intOf]; omega
      · go_wp2
        go_ret
        refine ⟨_, rfl, hb, .inr ⟨hn, w.heap.size, F.length, rfl, Nat.le_refl _, hR.lt, fun i c hi hc => ?_⟩⟩
        rw [hR.cell (i := i * 4 + c) (by omega)]
        have e1 : (i * 4 + c) / 4 = i := by omega
        have e2 : (i * 4 + c) % 4 = c := by omega
        have e3 : i < k := by omega
        simp [e1, e2, e3]

end Go.Proofs.Qxb6601521a
