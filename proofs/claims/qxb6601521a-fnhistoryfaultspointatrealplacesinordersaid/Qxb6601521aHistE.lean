/-
  The contract of zzToMessages.
-/
import Derived.Test.Qxb6601521aHistD
namespace Go.Proofs.Qxb6601521a
open Go.RowKit Go.Deep

def es : ByteArray := ⟨#[]⟩
theorem Try.info64 : (Try.prog.info? 64).map (fun i => (i.zero, i.size, i.bytes)) = some (some (.agg #[.string es, .string es, .string es, .string es]), 4, 64) := by kernel_rfl
theorem Try.info67 : (Try.prog.info? 67).map (fun i => (i.zero, i.size, i.bytes)) = some (some (.agg #[.string es, .string es, .string es]), 3, 48) := by kernel_rfl
theorem Try.info70 : (Try.prog.info? 70).map (fun i => (i.zero, i.size, i.bytes)) = some (some (.agg #[.string es, .string es]), 2, 32) := by kernel_rfl
def zmsg : Array Value := #[.string es, .string es, .slice none 0 0, .string es, .bool false, .slice none 0 0, .slice none 0 0, .string es]
theorem Try.info73 : (Try.prog.info? 73).map (fun i => (i.zero, i.size, i.bytes)) = some (some (.agg zmsg), 8, 144) := by kernel_rfl

theorem run_makeS (t e : TypeId) (z : Array Value) (size bytes : Nat) (ht : Try.prog.underlying t = some (.slice e)) (hinfo : (Try.prog.info? e).map (fun i => (i.zero, i.size, i.bytes)) = some (some (.agg z), size, bytes)) (hby : bytes ≤ 144)
    (n : Nat) (hn : n ≤ 1048576) (kl kc : IntKind) (w : World) :
    (Instr.makeSlice t (.int kl (n : Int)) (.int kc (n : Int))).run Try.prog w = .ok (.slice (some ⟨w.heap.size, 0, none⟩) n n) (w.alloc (.cells (madeCells z (n * size)) e)) := by
  obtain ⟨i, hi, hzz⟩ := Option.map_eq_some_iff.1 hinfo
  simp only [Prod.mk.injEq] at hzz
  obtain ⟨hz, hs, hb⟩ := hzz
  have hle : (i.bytes : Int) * (n : Int) ≤ 144 * 1048576 := by
    rw [hb]; exact Int.mul_le_mul (by omega) (by omega) (by omega) (by omega)
  have hr := run_make (P := Try.prog) w t e i _ ht hi hz kl kc n n (by omega) (Int.le_refl _) (by omega) (by omega)
  simp only [Int.toNat_natCast, hs, Value.cells] at hr
  exact hr

/-- the cells of rows of texts, 'size' an element -/
def srow (size : Nat) (S : Nat → Nat → ByteArray) : Nat → Value := fun o => .string (S (o / size) (o % size))

theorem madeS4 (w : World) (n : Nat) : (w.alloc (.cells (madeCells #[.string es, .string es, .string es, .string es] (n * 4)) 64)).rowIs w.heap.size 64 (n * 4) (srow 4 fun _ _ => es) := by
  have h := World.rowIs_alloc w (madeCells #[.string es, .string es, .string es, .string es] (n * 4)) 64 (srow 4 fun _ _ => es) ?_
  · rw [size_madeCells] at h; exact h
  · intro i hi
    rw [size_madeCells] at hi
    have : i % 4 = 0 ∨ i % 4 = 1 ∨ i % 4 = 2 ∨ i % 4 = 3 := by omega
    rcases this with h | h | h | h <;> simp [madeCells, hi, srow, h]
theorem madeS3 (w : World) (n : Nat) : (w.alloc (.cells (madeCells #[.string es, .string es, .string es] (n * 3)) 67)).rowIs w.heap.size 67 (n * 3) (srow 3 fun _ _ => es) := by
  have h := World.rowIs_alloc w (madeCells #[.string es, .string es, .string es] (n * 3)) 67 (srow 3 fun _ _ => es) ?_
  · rw [size_madeCells] at h; exact h
  · intro i hi
    rw [size_madeCells] at hi
    have : i % 3 = 0 ∨ i % 3 = 1 ∨ i % 3 = 2 := by omega
    rcases this with h | h | h <;> simp [madeCells, hi, srow, h]
theorem madeS2 (w : World) (n : Nat) : (w.alloc (.cells (madeCells #[.string es, .string es] (n * 2)) 70)).rowIs w.heap.size 70 (n * 2) (srow 2 fun _ _ => es) := by
  have h := World.rowIs_alloc w (madeCells #[.string es, .string es] (n * 2)) 70 (srow 2 fun _ _ => es) ?_
  · rw [size_madeCells] at h; exact h
  · intro i hi
    rw [size_madeCells] at hi
    have : i % 2 = 0 ∨ i % 2 = 1 := by omega
    rcases this with h | h <;> simp [madeCells, hi, srow, h]

theorem srow_put4 {w : World} {B N : Nat} {t : TypeId} {E : Nat → Nat → ByteArray} (h : w.rowIs B t N (srow 4 E)) (k : Nat) (v : Nat → ByteArray) :
    ((((w.setCell ⟨B, k * 4, none⟩ (.string (v 0))).setCell ⟨B, k * 4 + 1, none⟩ (.string (v 1))).setCell ⟨B, k * 4 + 2, none⟩ (.string (v 2))).setCell ⟨B, k * 4 + 3, none⟩ (.string (v 3))).rowIs B t N (srow 4 fun p => if p = k then v else E p) := by
  refine ((((h.set _ _).set _ _).set _ _).set _ _).congr fun i _ => ?_
  by_cases hk : i / 4 = k
  · have : i = k * 4 ∨ i = k * 4 + 1 ∨ i = k * 4 + 2 ∨ i = k * 4 + 3 := by omega
    rcases this with h | h | h | h
    · subst h; simp [srow]
    · subst h; simp [srow, hk]
    · subst h; simp [srow, hk]
    · subst h; simp [srow, hk]
  · have a0 : ¬ i = k * 4 := by omega
    have a1 : ¬ i = k * 4 + 1 := by omega
    have a2 : ¬ i = k * 4 + 2 := by omega
    have a3 : ¬ i = k * 4 + 3 := by omega
    simp [srow, a0, a1, a2, a3, hk]
theorem srow_put3 {w : World} {B N : Nat} {t : TypeId} {E : Nat → Nat → ByteArray} (h : w.rowIs B t N (srow 3 E)) (k : Nat) (v : Nat → ByteArray) :
    (((w.setCell ⟨B, k * 3, none⟩ (.string (v 0))).setCell ⟨B, k * 3 + 1, none⟩ (.string (v 1))).setCell ⟨B, k * 3 + 2, none⟩ (.string (v 2))).rowIs B t N (srow 3 fun p => if p = k then v else E p) := by
  refine (((h.set _ _).set _ _).set _ _).congr fun i _ => ?_
  by_cases hk : i / 3 = k
  · have : i = k * 3 ∨ i = k * 3 + 1 ∨ i = k * 3 + 2 := by omega
    rcases this with h | h | h
    · subst h; simp [srow]
    · subst h; simp [srow, hk]
    · subst h; simp [srow, hk]
  · have a0 : ¬ i = k * 3 := by omega
    have a1 : ¬ i = k * 3 + 1 := by omega
    have a2 : ¬ i = k * 3 + 2 := by omega
    simp [srow, a0, a1, a2, hk]
theorem srow_put2 {w : World} {B N : Nat} {t : TypeId} {E : Nat → Nat → ByteArray} (h : w.rowIs B t N (srow 2 E)) (k : Nat) (v : Nat → ByteArray) :
    ((w.setCell ⟨B, k * 2, none⟩ (.string (v 0))).setCell ⟨B, k * 2 + 1, none⟩ (.string (v 1))).rowIs B t N (srow 2 fun p => if p = k then v else E p) := by
  refine ((h.set _ _).set _ _).congr fun i _ => ?_
  by_cases hk : i / 2 = k
  · have : i = k * 2 ∨ i = k * 2 + 1 := by omega
    rcases this with h | h
    · subst h; simp [srow]
    · subst h; simp [srow, hk]
  · have a0 : ¬ i = k * 2 := by omega
    have a1 : ¬ i = k * 2 + 1 := by omega
    simp [srow, a0, a1, hk]

theorem srow_step (size k : Nat) (S : Nat → Nat → ByteArray) (o : Nat) : srow size (fun p => if p = k then S k else if p < k then S p else fun _ => es) o = srow size (fun p => if p < k + 1 then S p else fun _ => es) o := by
  unfold srow
  by_cases e : o / size = k
  · simp [e]
  · have : o / size < k + 1 ↔ o / size < k := by omega
    simp [e, this]

/-- the texts under one function -/
theorem CallsAt.fn {w : World} {a : Option Addr} {n : Nat} {cid : Nat → ByteArray} (h : CallsAt w a n cid) (hn : 0 < n) : ∃ b o, ∃ S : Nat → Nat → ByteArray, a = some ⟨b, o, none⟩ ∧ ∀ j, j < n → S j 0 = cid j ∧ ∀ c, c < 4 → w.cell? ⟨b, o + j * 4 + c, none⟩ = some (.string (S j c)) := by
  obtain ⟨b, o, ha, hc⟩ := h hn
  have key : ∀ j, ∃ T : Nat → ByteArray, j < n → T 0 = cid j ∧ ∀ c, c < 4 → w.cell? ⟨b, o + j * 4 + c, none⟩ = some (.string (T c)) := fun j => by
    by_cases hj : j < n
    · obtain ⟨s1, s2, s3, e0, e1, e2, e3⟩ := hc j hj
      refine ⟨fun c => if c = 0 then cid j else if c = 1 then s1 else if c = 2 then s2 else s3, fun _ => ⟨rfl, fun c hc => ?_⟩⟩
      have : c = 0 ∨ c = 1 ∨ c = 2 ∨ c = 3 := by omega
      rcases this with h | h | h | h <;> subst h
      · exact e0
      · exact e1
      · exact e2
      · exact e3
    · exact ⟨fun _ => es, fun h => absurd h hj⟩
  exact ⟨b, o, fun j => (key j).choose, ha, fun j hj => (key j).choose_spec hj⟩
theorem StrsAt.fn {w : World} {a : Option Addr} {n size : Nat} (h : StrsAt w a n size) (hn : 0 < n) : ∃ b o, ∃ S : Nat → Nat → ByteArray, a = some ⟨b, o, none⟩ ∧ ∀ j, j < n → ∀ c, c < size → w.cell? ⟨b, o + j * size + c, none⟩ = some (.string (S j c)) := by
  obtain ⟨b, o, ha, hc⟩ := h.2 hn
  have key : ∀ j c, ∃ s : ByteArray, j < n → c < size → w.cell? ⟨b, o + j * size + c, none⟩ = some (.string s) := fun j c => by
    by_cases hj : j < n
    · by_cases hcc : c < size
      · obtain ⟨s, e⟩ := hc j hj c hcc
        exact ⟨s, fun _ _ => e⟩
      · exact ⟨es, fun _ h => absurd h hcc⟩
    · exact ⟨es, fun h => absurd h hj⟩
  exact ⟨b, o, fun j c => (key j c).choose, ha, fun j hj c hcc => (key j c).choose_spec hj hcc⟩

/-- a message of the new array G, its calls in a block other than G -/
def MsgX (w : World) (G o : Nat) (m : Msg) : Prop :=
  ∃ s1 s7 f a2 c2 a5 n5 c5 a6 n6 c6, w.cell? ⟨G, o, none⟩ = some (.string m.role) ∧ w.cell? ⟨G, o + 1, none⟩ = some (.string s1) ∧ w.cell? ⟨G, o + 2, none⟩ = some (.slice a2 m.nc c2) ∧
    w.cell? ⟨G, o + 3, none⟩ = some (.string m.tcid) ∧ w.cell? ⟨G, o + 4, none⟩ = some (.bool f) ∧ w.cell? ⟨G, o + 5, none⟩ = some (.slice a5 n5 c5) ∧ w.cell? ⟨G, o + 6, none⟩ = some (.slice a6 n6 c6) ∧
    w.cell? ⟨G, o + 7, none⟩ = some (.string s7) ∧ (0 < m.nc → ∃ b, a2 = some ⟨b, 0, none⟩ ∧ b ≠ G) ∧ CallsAt w a2 m.nc m.cid

theorem MsgX.msg {w : World} {G o : Nat} {m : Msg} (h : MsgX w G o m) : MsgAt w G o m := by
  obtain ⟨s1, s7, f, a2, c2, a5, n5, c5, a6, n6, c6, e0, e1, e2, e3, e4, e5, e6, e7, _, hc⟩ := h
  exact ⟨s1, s7, f, a2, c2, a5, n5, c5, a6, n6, c6, e0, e1, e2, e3, e4, e5, e6, e7, hc⟩
theorem MsgX.ext {w w' : World} {H : Nat} (hH : w.heap.size ≤ H) (hb : Below H w w') {b o : Nat} {m : Msg} (h : MsgX w b o m) : MsgX w' b o m := by
  obtain ⟨s1, s7, f, a2, c2, a5, n5, c5, a6, n6, c6, e0, e1, e2, e3, e4, e5, e6, e7, hx, hc⟩ := h
  exact ⟨s1, s7, f, a2, c2, a5, n5, c5, a6, n6, c6, cell_ext hH hb e0, cell_ext hH hb e1, cell_ext hH hb e2, cell_ext hH hb e3, cell_ext hH hb e4, cell_ext hH hb e5, cell_ext hH hb e6, cell_ext hH hb e7, hx, hc.ext hH hb⟩
/-- a store into G elsewhere -/
theorem MsgX.store {w : World} {G o p : Nat} {m : Msg} {v : Value} (h : MsgX w G o m) (hp : o + 8 ≤ p) : MsgX (w.setCell ⟨G, p, none⟩ v) G o m := by
  obtain ⟨s1, s7, f, a2, c2, a5, n5, c5, a6, n6, c6, e0, e1, e2, e3, e4, e5, e6, e7, hx, hc⟩ := h
  have k : ∀ q u, q < p → w.cell? ⟨G, q, none⟩ = some u → (w.setCell ⟨G, p, none⟩ v).cell? ⟨G, q, none⟩ = some u := fun q u hq e => by
    have hne : (⟨G, p, none⟩ : Addr) ≠ ⟨G, q, none⟩ := by intro e; injection e with _ e2; omega
    rw [World.cell?_setCell_other w _ _ _ hne]; exact e
  refine ⟨s1, s7, f, a2, c2, a5, n5, c5, a6, n6, c6, k _ _ (by omega) e0, k _ _ (by omega) e1, k _ _ (by omega) e2, k _ _ (by omega) e3, k _ _ (by omega) e4, k _ _ (by omega) e5, k _ _ (by omega) e6, k _ _ (by omega) e7, hx, fun hn => ?_⟩
  obtain ⟨b, o, ha, hcc⟩ := hc hn
  obtain ⟨b', hb1, hb2⟩ := hx hn
  have hbb : b = b' ∧ o = 0 := by rw [ha] at hb1; injection hb1 with e; injection e with e1 e2; exact ⟨e1, e2⟩
  have k2 : ∀ q u, w.cell? ⟨b, q, none⟩ = some u → (w.setCell ⟨G, p, none⟩ v).cell? ⟨b, q, none⟩ = some u := fun q u e => by
    have hne : (⟨G, p, none⟩ : Addr) ≠ ⟨b, q, none⟩ := by intro e; injection e with e1 _; exact hb2 (by rw [e1]; exact hbb.1.symm)
    rw [World.cell?_setCell_other w _ _ _ hne]; exact e
  refine ⟨b, o, ha, fun j hj => ?_⟩
  obtain ⟨s1, s2, s3, q0, q1, q2, q3⟩ := hcc j hj
  exact ⟨s1, s2, s3, k2 _ _ q0, k2 _ _ q1, k2 _ _ q2, k2 _ _ q3⟩

end Go.Proofs.Qxb6601521a
