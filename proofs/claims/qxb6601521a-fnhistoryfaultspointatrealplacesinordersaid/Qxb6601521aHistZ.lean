/-
  The laws' own slices of faults: append; zzSameFaults.
-/
import Derived.Test.Qxb6601521aHistD
import Derived.Laws.StructEq
namespace Go.Proofs.Qxb6601521a
open Go.RowKit Go.Deep

/-- the slice v of the call's own (from block base on) holds the faults F; it is nil where there is none -/
def ZFlts (w : World) (base : Nat) (v : Value) (F : List Flt) : Prop := w.ownsRow base 40 4 v F.length (fcells F) ∧ (F = [] → v = .slice none 0 0)

theorem ZFlts.nil (w : World) (base : Nat) : ZFlts w base (.slice none 0 0) [] := ⟨World.ownsRow_nil _ _ _ _, fun _ => rfl⟩
theorem ZFlts.kept {w w' : World} {base : Nat} {v : Value} {F : List Flt} (h : ZFlts w base v F) (hb : ∀ k, v.ownBlock = some k → w'.heap[k]? = w.heap[k]?) : ZFlts w' base v F := by
  refine ⟨⟨h.1.1, ?_⟩, h.2⟩
  rcases h.1.2 with h0 | ⟨g, cap, cur, hv, hg, hh, r⟩
  · exact .inl h0
  · exact .inr ⟨g, cap, cur, hv, hg, by rw [hb g (by rw [hv]; rfl)]; exact hh, r⟩
theorem ZFlts.alloc {w : World} {base : Nat} {v : Value} {F : List Flt} (h : ZFlts w base v F) (o : Obj) : ZFlts (w.alloc o) base v F := ⟨h.1.alloc o, h.2⟩
theorem ZFlts.lt {w : World} {base : Nat} {v : Value} {F : List Flt} (h : ZFlts w base v F) : ∀ k, v.ownBlock = some k → base ≤ k ∧ k < w.heap.size := h.1.lt
/-- behind a call that leaves all below its own start as it was -/
theorem ZFlts.later {w w' : World} {base : Nat} {v : Value} {F : List Flt} (h : ZFlts w base v F) (hb : Below w.heap.size w w') : ZFlts w' base v F := h.kept fun k hk => hb.block k (h.lt k hk).2

theorem wpList_append_zflt (w : World) {ops : Array Oper} {rest : List Oper} {o : Oper} {a : Act} {Q : Exit → Act → World → Prop} (hgd : o.guard = none) (s x : Operand)
    (ho : o.op = .call { callee := .builtin .append, args := #[s, x], argTypes := #[25, 25] })
    (base : Nat) (v : Value) (F : List Flt) (hs : a.eval s = v) (hF : ZFlts w base v F) (f : Flt) (hx : a.eval x = .slice (some ⟨w.heap.size, 0, none⟩) 1 1)
    (hlen : F.length ≤ 4398046511103) (hbase : base ≤ w.heap.size)
    (h : ∀ g cap w', ZFlts w' base (.slice (some ⟨g, 0, none⟩) (F.length + 1) cap) (F ++ [f]) → (w.alloc (.cells #[.int .i64 f.kind, .int .i64 f.at_, .int .i64 f.asked, .int .i64 f.call] 40)).grownBy w' v.ownBlock →
      (v.ownBlock = some g ∨ g = w.heap.size + 1) → wpList Try.prog ops Q rest (a.put o.dst (.slice (some ⟨g, 0, none⟩) (F.length + 1) cap)) w') :
    wpList Try.prog ops Q (o :: rest) a (w.alloc (.cells #[.int .i64 f.kind, .int .i64 f.at_, .int .i64 f.asked, .int .i64 f.call] 40)) := by
  obtain ⟨i, hi, hz0, hz1, hz2⟩ := info_parts Try.info40
  refine wpList_append_lies _ hgd s x 25 ho base 40 i _ 4 32 Try.underlying25 hi hz0 hz1 hz2 rfl (by decide) v F.length (fcells F) hs (hF.1.alloc _) ⟨w.heap.size, 0, none⟩ 1 1 (fcell f) hx rfl
    (World.news_of_block (blk_alloc_new _ _)) ?_ (by decide) (by unfold maxLen; omega) (by omega) (by simp; omega) (w.heap.size + 1) (by simp) ?_
  · intro u hu
    simp [fcell] at hu
    rcases hu with h | h | h | h <;> subst h <;> rfl
  · intro g cap w' h1 h2 h3 h4
    refine h g cap w' ⟨?_, ?_⟩ h2 h3
    · have e : fcells (F ++ [f]) = fcells F ++ fcell f := by simp [fcells]
      rw [e, List.length_append]
      exact h1
    · intro hn; simp at hn


theorem ZFlts.cell {w : World} {base g n cap : Nat} {F : List Flt} (h : ZFlts w base (.slice (some ⟨g, 0, none⟩) n cap) F) (i c : Nat) (hi : i < F.length) (hc : c < 4) : w.cell? ⟨g, i * 4 + c, none⟩ = some (.int .i64 (fget F i c)) := by
  have := h.1.cells (g := g) rfl (i * 4 + c) _ (fcells_get F i c hi hc)
  have e : (⟨g, 0, none⟩ : Addr).add (i * 4 + c) = ⟨g, i * 4 + c, none⟩ := by unfold Addr.add; split <;> simp_all
  rwa [e] at this
theorem ZFlts.form {w : World} {base : Nat} {v : Value} {F : List Flt} (h : ZFlts w base v F) : (F = [] ∧ v = .slice none 0 0) ∨ (F ≠ [] ∧ ∃ g cap, v = .slice (some ⟨g, 0, none⟩) F.length cap ∧ base ≤ g ∧ g < w.heap.size) := by
  by_cases hF : F = []
  · exact .inl ⟨hF, h.2 hF⟩
  · exact .inr ⟨hF, h.1.form (List.length_pos_iff.2 hF)⟩
theorem ZFlts.zfs {w : World} {base : Nat} {v : Value} {F : List Flt} (h : ZFlts w base v F) : ZFs w base v F := by
  rcases h.form with h0 | ⟨h0, g, cap, rfl, h1, h2⟩
  · exact .inl h0
  · exact .inr ⟨h0, g, cap, rfl, h1, h2, fun i c hi hc => h.cell i c hi hc⟩

/-- a slice of faults is read: its address, its cells -/
theorem ZFs.read {w : World} {H : Nat} {r : Value} {F : List Flt} (h : ZFs w H r F) : ∃ a cap, r = .slice a F.length cap ∧ ∀ i, i < F.length → ∃ g, a = some ⟨g, 0, none⟩ ∧ g < w.heap.size ∧ w.cell? ⟨g, i * 4, none⟩ = some (.int .i64 (fget F i 0)) ∧
    w.cell? ⟨g, i * 4 + 1, none⟩ = some (.int .i64 (fget F i 1)) ∧ w.cell? ⟨g, i * 4 + 2, none⟩ = some (.int .i64 (fget F i 2)) ∧ w.cell? ⟨g, i * 4 + 3, none⟩ = some (.int .i64 (fget F i 3)) := by
  rcases h with ⟨rfl, rfl⟩ | ⟨h0, g, cap, rfl, h1, h2, h3⟩
  · exact ⟨none, 0, rfl, fun i hi => by simp at hi⟩
  · exact ⟨_, cap, rfl, fun i hi => ⟨g, rfl, h2, h3 i 0 hi (by omega), h3 i 1 hi (by omega), h3 i 2 hi (by omega), h3 i 3 hi (by omega)⟩⟩

theorem neq40 (a b c d x y z t : Int) (w : World) : (binOp .neq 40 (.agg #[.int .i64 a, .int .i64 b, .int .i64 c, .int .i64 d]) (.agg #[.int .i64 x, .int .i64 y, .int .i64 z, .int .i64 t])).run Try.prog w = .ok (.bool (!(a == x && (b == y && (c == z && d == t))))) w := by
  have u3 := Try.underlying3
  have a3 := Try.isAgg3
  have z3 := Try.sizeOf3
  have hS : Try.prog.underlying 40 = some (.struct (Try.prog.fieldsOf 40)) := by kernel_rfl
  have hp : Try.prog.stoodInHeld 40 = false := by kernel_rfl
  rw [run_neq_struct, show (10000 : Nat) = 9999 + 1 from rfl, run_equalIn_agg w 9999 40 _ _ hS hp]
  simp only [Program.fieldsOf, Try.underlying40]
  go_simp
  by_cases h1 : a = x <;> by_cases h2 : b = y <;> by_cases h3 : c = z <;> by_cases h4 : d = t <;> simp [h1, h2, h3, h4]
theorem guard40 : Try.prog.eqGuardType Try.prog.depth 40 = false := by kernel_rfl

set_option maxHeartbeats 1000000 in
theorem same15 (F : List Flt) (ra rb : Value) (H1 H2 : Nat) (w : World) (hl : F.length ≤ 4398046511104) (ha : ZFs w H1 ra F) (hb : ZFs w H2 rb F) :
    Calls Try.prog 15 #[ra, rb] w fun e w' => e = .returned (.bool true) ∧ Below w.heap.size w w' := by
  obtain ⟨a1, c1, rfl, hc1⟩ := ha.read
  obtain ⟨a2, c2, rfl, hc2⟩ := hb.read
  clear ha hb
  have HC : Hid (∀ i, i < F.length → ∃ g, a1 = some ⟨g, 0, none⟩ ∧ g < w.heap.size ∧ w.cell? ⟨g, i * 4, none⟩ = some (.int .i64 (fget F i 0)) ∧
    w.cell? ⟨g, i * 4 + 1, none⟩ = some (.int .i64 (fget F i 1)) ∧ w.cell? ⟨g, i * 4 + 2, none⟩ = some (.int .i64 (fget F i 2)) ∧ w.cell? ⟨g, i * 4 + 3, none⟩ = some (.int .i64 (fget F i 3))) := hc1
  have HD : Hid (∀ i, i < F.length → ∃ g, a2 = some ⟨g, 0, none⟩ ∧ g < w.heap.size ∧ w.cell? ⟨g, i * 4, none⟩ = some (.int .i64 (fget F i 0)) ∧
    w.cell? ⟨g, i * 4 + 1, none⟩ = some (.int .i64 (fget F i 1)) ∧ w.cell? ⟨g, i * 4 + 2, none⟩ = some (.int .i64 (fget F i 2)) ∧ w.cell? ⟨g, i * 4 + 3, none⟩ = some (.int .i64 (fget F i 3))) := hc2
  clear hc1 hc2
  go_enter Try.func15, Try.ntmps15
  go_wp2
  go_loopw [5] (fun t wr => ∃ k : Nat, k ≤ F.length ∧ t = .int .i64 k ∧ Below w.heap.size w wr) (fun t _ => F.length - (intOf t).toNat)
  case atStart => exact ⟨0, Nat.zero_le _, rfl, Below.refl _ _⟩
  case round =>
    obtain ⟨k, hk, rfl, hb⟩ := hrel
    by_cases hlt : k < F.length
    · obtain ⟨g1, rfl, hg1, p0, p1, p2, p3⟩ := HC.out k hlt
      obtain ⟨g2, rfl, hg2, q0, q1, q2, q3⟩ := HD.out k hlt
      have p0 := cell_ext (Nat.le_refl _) hb p0
      have p1 := cell_ext (Nat.le_refl _) hb p1
      have p2 := cell_ext (Nat.le_refl _) hb p2
      have p3 := cell_ext (Nat.le_refl _) hb p3
      have q0 := cell_ext (Nat.le_refl _) hb q0
      have q1 := cell_ext (Nat.le_refl _) hb q1
      have q2 := cell_ext (Nat.le_refl _) hb q2
      have q3 := cell_ext (Nat.le_refl _) hb q3
      have hne := fun w => neq40 (fget F k 0) (fget F k 1) (fget F k 2) (fget F k 3) (fget F k 0) (fget F k 1) (fget F k 2) (fget F k 3) w
      have hgd := guard40
      go_wp2
      go_quiet (fail)
      go_wp2
      go_roundw
      case rel => exact ⟨k + 1, by omega, by go_num, below_drewN hb _⟩
      case measure => simp [intOf]; omega
    · go_wp2
      go_ret
      exact ⟨rfl, hb⟩

end Go.Proofs.Qxb6601521a
