/-
  plain law of places and order
-/
import Derived.Test.Qxb6601521aPlaA
namespace Go.Proofs.Qxb6601521a

/-- no assistant message stands before the tool messages right before i -/
def NoAsk (M : Nat → Msg) (i : Nat) : Prop := ∀ j, j < i → (∀ t, j < t → t < i → toolB (M t).role = true) → asstB (M j).role = false

/-- what a stray result says -/
def Stray (M : Nat → Msg) (n i : Nat) (f : Flt) : Prop :=
  ∃ p : Nat, f = ⟨0, p, -1, 0⟩ ∧ i ≤ p ∧ p < n ∧ toolB (M p).role = true ∧ NoAsk M p

theorem tool_notAsst {r : ByteArray} (h : toolB r = true) : asstB r = false := by
  cases ha : asstB r
  · rfl
  · rw [asst_notTool ha] at h; cases h

theorem hist_stray (M : Nat → Msg) (n : Nat) : ∀ d i, n - i ≤ d → (i < n → toolB (M i).role = true → NoAsk M i) → ∀ f ∈ histFrom M n (n - i) i, Stray M n i f ∨ ∃ a, i ≤ a ∧ a < n ∧ asstB (M a).role = true ∧ f ∈ blockF M n a := by
  intro d
  induction d with
  | zero => intro i hd hq f hf; rw [hist_stop M n _ i (by omega)] at hf; simp at hf
  | succ d ih =>
    intro i hd hq f hf
    by_cases e : n ≤ i
    · rw [hist_stop M n _ i e] at hf; simp at hf
    · have hlt : i < n := by omega
      cases ht : toolB (M i).role
      · cases ha : asstB (M i).role
        · rw [hist_other M n i hlt ht ha] at hf
          have hq' : i + 1 < n → toolB (M (i + 1)).role = true → NoAsk M (i + 1) := by
            intro _ _ j hj hall
            by_cases e : j = i
            · subst e; exact ha
            · have := hall i (by omega) (by omega); rw [ht] at this; cases this
          rcases ih (i + 1) (by omega) hq' f hf with ⟨p, h1, h2, h3⟩ | ⟨a, h1, h2⟩
          · exact .inl ⟨p, h1, by omega, h3⟩
          · exact .inr ⟨a, by omega, h2⟩
        · rw [hist_asst M n i hlt ht ha, List.mem_append] at hf
          rcases hf with hf | hf
          · exact .inr ⟨i, Nat.le_refl _, hlt, ha, hf⟩
          · have hq' : i + 1 + toolRun M n (i + 1) < n → toolB (M (i + 1 + toolRun M n (i + 1))).role = true → NoAsk M (i + 1 + toolRun M n (i + 1)) := by
              intro h1 h2
              rw [(toolRun_spec M n (i + 1)).2 h1] at h2; cases h2
            rcases ih (i + 1 + toolRun M n (i + 1)) (by omega) hq' f hf with ⟨p, h1, h2, h3⟩ | ⟨a, h1, h2⟩
            · exact .inl ⟨p, h1, by omega, h3⟩
            · exact .inr ⟨a, by omega, h2⟩
      · rw [hist_tool M n i hlt ht, List.mem_cons] at hf
        rcases hf with hf | hf
        · exact .inl ⟨i, hf, Nat.le_refl _, hlt, ht, hq hlt ht⟩
        · have hq' : i + 1 < n → toolB (M (i + 1)).role = true → NoAsk M (i + 1) := by
            intro _ _ j hj hall
            by_cases e : j = i
            · subst e; exact tool_notAsst ht
            · exact hq hlt ht j (by omega) fun t h1 h2 => hall t h1 (by omega)
          rcases ih (i + 1) (by omega) hq' f hf with ⟨p, h1, h2, h3⟩ | ⟨a, h1, h2⟩
          · exact .inl ⟨p, h1, by omega, h3⟩
          · exact .inr ⟨a, by omega, h2⟩

/-- the three sorts of a fault -/
def Sort3 (M : Nat → Msg) (n : Nat) (f : Flt) : Prop := Stray M n 0 f ∨ ∃ a, a < n ∧ asstB (M a).role = true ∧ (PlacedOf M n a f ∨ MissOf M n a f)
theorem histF_sort (M : Nat → Msg) (n : Nat) (f : Flt) (hf : f ∈ histF M n) : Sort3 M n f := by
  rcases hist_stray M n n 0 (by omega) (fun _ _ j hj => by omega) f hf with h | ⟨a, _, h1, h2, h3⟩
  · exact .inl h
  · exact .inr ⟨a, h1, h2, blockF_mem M n a f h3⟩

/-- order -/
def Ord (f g : Flt) : Prop := f.at_ ≤ g.at_ ∧ (f.kind ≠ 3 → g.kind ≠ 3 → f.at_ < g.at_)

theorem fltK_ord (M : Nat → Msg) (a : Nat) : ∀ k, (fltK M a k).Pairwise Ord := by
  intro k
  induction k with
  | zero => unfold fltK; exact List.Pairwise.nil
  | succ k ih =>
    unfold fltK
    rw [List.pairwise_append]
    refine ⟨ih, ?_, ?_⟩
    · split
      · exact List.Pairwise.nil
      · exact List.pairwise_singleton _ _
    · intro f hf g hg
      obtain ⟨j, h1, h2, h3, _⟩ := fltK_mem M a k f hf
      revert hg
      split
      · intro hg; simp at hg
      · intro hg
        rw [List.mem_singleton] at hg
        subst hg
        constructor
        · show f.at_ ≤ ((a + 1 + k : Nat) : Int); omega
        · intro _ _; show f.at_ < ((a + 1 + k : Nat) : Int); omega
theorem missK_ord (a e : Nat) (ans : Nat → Bool) (m : Nat) : (missK a e ans m).Pairwise Ord := by
  refine List.Pairwise.imp_of_mem (R := fun _ _ => True) ?_ (List.pairwise_of_forall fun _ _ => trivial)
  intro f g hf hg _
  obtain ⟨c, h1, _, _, _, h2⟩ := missK_mem a e ans m f hf
  obtain ⟨c', h1', _, _, _, h2'⟩ := missK_mem a e ans m g hg
  exact ⟨by omega, fun h => absurd h2 h⟩
theorem blockF_ord (M : Nat → Msg) (n a : Nat) : (blockF M n a).Pairwise Ord := by
  unfold blockF
  rw [List.pairwise_append]
  refine ⟨fltK_ord _ _ _, missK_ord _ _ _ _, ?_⟩
  intro f hf g hg
  obtain ⟨j, h1, h2, h3, _⟩ := fltK_mem M a _ f hf
  obtain ⟨c', h1', _, _, _, h2'⟩ := missK_mem a _ _ _ g hg
  exact ⟨by omega, fun _ h => absurd h2' h⟩
theorem hist_low (M : Nat → Msg) (n i : Nat) (f : Flt) (hf : f ∈ histFrom M n (n - i) i) : (i : Int) ≤ f.at_ := by
  rcases hist_mem M n n i (by omega) f hf with ⟨p, h1, h2, h3, _⟩ | ⟨a, h1, h2, _, h3⟩
  · subst h1; simp; omega
  · rcases blockF_mem M n a f h3 with ⟨j, q1, q2, q3, q4, _⟩ | ⟨c, q1, q2, q3, _⟩ <;> omega
theorem hist_ord (M : Nat → Msg) (n : Nat) : ∀ d i, n - i ≤ d → (histFrom M n (n - i) i).Pairwise Ord := by
  intro d
  induction d with
  | zero => intro i hd; rw [hist_stop M n _ i (by omega)]; exact List.Pairwise.nil
  | succ d ih =>
    intro i hd
    by_cases e : n ≤ i
    · rw [hist_stop M n _ i e]; exact List.Pairwise.nil
    · have hlt : i < n := by omega
      cases ht : toolB (M i).role
      · cases ha : asstB (M i).role
        · rw [hist_other M n i hlt ht ha]
          exact ih (i + 1) (by omega)
        · rw [hist_asst M n i hlt ht ha, List.pairwise_append]
          refine ⟨blockF_ord M n i, ih _ (by omega), ?_⟩
          intro f hf g hg
          have hg' := hist_low M n _ g hg
          rcases blockF_mem M n i f hf with ⟨j, q1, q2, q3, q4, _⟩ | ⟨c, q1, q2, q3, _, q5⟩
          · exact ⟨by omega, fun _ _ => by omega⟩
          · exact ⟨by omega, fun h => absurd q5 h⟩
      · rw [hist_tool M n i hlt ht, List.pairwise_cons]
        refine ⟨?_, ih (i + 1) (by omega)⟩
        intro g hg
        have hg' := hist_low M n _ g hg
        exact ⟨by show (i : Int) ≤ _; omega, fun _ _ => by show (i : Int) < _; omega⟩
theorem histF_ord (M : Nat → Msg) (n : Nat) : (histF M n).Pairwise Ord := hist_ord M n n 0 (by omega)

/-- counts -/
def placedN (F : List Flt) : Nat := F.countP fun f => f.kind != 3
def missN (F : List Flt) : Nat := F.countP fun f => f.kind == 3
def toolsUp (M : Nat → Msg) : Nat → Nat
  | 0 => 0
  | k + 1 => toolsUp M k + if toolB (M k).role then 1 else 0
def callsUp (M : Nat → Msg) : Nat → Nat
  | 0 => 0
  | k + 1 => callsUp M k + (M k).nc
theorem toolsUp_run (M : Nat → Msg) (i : Nat) : ∀ k, (∀ t, t < k → toolB (M (i + t)).role = true) → toolsUp M (i + k) = toolsUp M i + k := by
  intro k
  induction k with
  | zero => intro _; rfl
  | succ k ih =>
    intro h
    rw [← Nat.add_assoc, toolsUp, ih fun t ht => h t (by omega), h k (by omega)]
    simp; omega
theorem toolsUp_le (M : Nat → Msg) : ∀ k, toolsUp M k ≤ k := by
  intro k
  induction k with
  | zero => exact Nat.le_refl _
  | succ k ih => unfold toolsUp; split <;> omega
theorem callsUp_le (M : Nat → Msg) (n : Nat) (h : ∀ i, i < n → (M i).nc ≤ 1048576) : ∀ k, k ≤ n → callsUp M k ≤ k * 1048576 := by
  intro k
  induction k with
  | zero => intro _; exact Nat.le_refl _
  | succ k ih => intro hk; have := h k (by omega); have := ih (by omega); unfold callsUp; omega
theorem callsUp_mono (M : Nat → Msg) : ∀ k i, i ≤ k → callsUp M i ≤ callsUp M k := by
  intro k
  induction k with
  | zero => intro i hi; have : i = 0 := by omega
            subst this; exact Nat.le_refl _
  | succ k ih => intro i hi
                 by_cases e : i = k + 1
                 · subst e; exact Nat.le_refl _
                 · have := ih i (by omega); have e2 : callsUp M (k + 1) = callsUp M k + (M k).nc := rfl
                   omega
theorem placed_flt (M : Nat → Msg) (a k : Nat) : placedN (fltK M a k) ≤ k ∧ missN (fltK M a k) = 0 := by
  refine ⟨Nat.le_trans List.countP_le_length (fltK_len M a k), ?_⟩
  unfold missN
  rw [List.countP_eq_zero]
  intro f hf
  obtain ⟨j, _, _, _, _, _, h⟩ := fltK_mem M a k f hf
  rw [h]; split <;> decide
theorem placed_miss (a e : Nat) (ans : Nat → Bool) (m : Nat) : placedN (missK a e ans m) = 0 ∧ missN (missK a e ans m) ≤ m := by
  refine ⟨?_, Nat.le_trans List.countP_le_length (missK_len a e ans m)⟩
  unfold placedN
  rw [List.countP_eq_zero]
  intro f hf
  obtain ⟨j, _, _, _, _, h⟩ := missK_mem a e ans m f hf
  rw [h]; decide
theorem placed_app (F G : List Flt) : placedN (F ++ G) = placedN F + placedN G ∧ missN (F ++ G) = missN F + missN G := ⟨List.countP_append, List.countP_append⟩
theorem placed_block (M : Nat → Msg) (n a : Nat) : placedN (blockF M n a) ≤ toolRun M n (a + 1) ∧ missN (blockF M n a) ≤ (M a).nc := by
  unfold blockF
  obtain ⟨e1, e2⟩ := placed_app (fltK M a (toolRun M n (a + 1))) (missK a (a + 1 + toolRun M n (a + 1)) (ansK M a (toolRun M n (a + 1))) (M a).nc)
  have h1 := placed_flt M a (toolRun M n (a + 1))
  have h2 := placed_miss a (a + 1 + toolRun M n (a + 1)) (ansK M a (toolRun M n (a + 1))) (M a).nc
  omega
theorem hist_counts (M : Nat → Msg) (n : Nat) : ∀ d i, n - i ≤ d → i ≤ n → placedN (histFrom M n (n - i) i) + toolsUp M i ≤ toolsUp M n ∧ missN (histFrom M n (n - i) i) + callsUp M i ≤ callsUp M n := by
  intro d
  induction d with
  | zero => intro i hd hi; rw [hist_stop M n _ i (by omega)]; have : i = n := by omega
            subst this; simp [placedN, missN]
  | succ d ih =>
    intro i hd hi
    by_cases e : n ≤ i
    · rw [hist_stop M n _ i (by omega)]; have : i = n := by omega
      subst this; simp [placedN, missN]
    · have hlt : i < n := by omega
      have h1 := ih (i + 1) (by omega) (by omega)
      have hs : callsUp M (i + 1) = callsUp M i + (M i).nc := rfl
      cases ht : toolB (M i).role
      · have hs2 : toolsUp M (i + 1) = toolsUp M i := by rw [toolsUp, ht]; rfl
        cases ha : asstB (M i).role
        · rw [hist_other M n i hlt ht ha]
          omega
        · have htr := toolRun_le M n (i + 1)
          rw [hist_asst M n i hlt ht ha, (placed_app _ _).1, (placed_app _ _).2]
          have h1 := ih (i + 1 + toolRun M n (i + 1)) (by omega) (by omega)
          have h2 := placed_block M n i
          have h3 := toolsUp_run M (i + 1) (toolRun M n (i + 1)) (toolRun_spec M n (i + 1)).1
          have h4 := callsUp_mono M (i + 1 + toolRun M n (i + 1)) (i + 1) (by omega)
          omega
      · rw [hist_tool M n i hlt ht]
        have hs2 : toolsUp M (i + 1) = toolsUp M i + 1 := by rw [toolsUp, ht]; rfl
        have e1 : placedN (⟨0, i, -1, 0⟩ :: histFrom M n (n - (i + 1)) (i + 1)) = placedN (histFrom M n (n - (i + 1)) (i + 1)) + 1 := by unfold placedN; rw [List.countP_cons]; rfl
        have e2 : missN (⟨0, i, -1, 0⟩ :: histFrom M n (n - (i + 1)) (i + 1)) = missN (histFrom M n (n - (i + 1)) (i + 1)) := by unfold missN; rw [List.countP_cons]; rfl
        omega
theorem histF_counts (M : Nat → Msg) (n : Nat) : placedN (histF M n) ≤ toolsUp M n ∧ missN (histF M n) ≤ callsUp M n := by
  have := hist_counts M n n 0 (by omega) (by omega)
  unfold histF
  simp only [Nat.sub_zero, toolsUp, callsUp, Nat.add_zero] at this
  exact this

/-- the place of the last placed fault -/
def lastP (F : List Flt) : Int := F.foldl (fun l f => if f.kind = 3 then l else f.at_) (-1)
theorem lastP_snoc (F : List Flt) (f : Flt) : lastP (F ++ [f]) = if f.kind = 3 then lastP F else f.at_ := by unfold lastP; rw [List.foldl_append]; rfl
theorem lastP_mem (F : List Flt) : lastP F = -1 ∨ ∃ g ∈ F, g.kind ≠ 3 ∧ lastP F = g.at_ := by
  rcases List.eq_nil_or_concat F with h | ⟨G, f, h⟩
  · subst h; exact .inl rfl
  · rw [List.concat_eq_append] at h
    have ih := lastP_mem G
    subst h
    rw [lastP_snoc]
    by_cases hk : f.kind = 3
    · rw [if_pos hk]
      rcases ih with h | ⟨g, h1, h2, h3⟩
      · exact .inl h
      · exact .inr ⟨g, List.mem_append_left _ h1, h2, h3⟩
    · rw [if_neg hk]
      exact .inr ⟨f, by simp, hk, rfl⟩
termination_by F.length
decreasing_by rw [h]; simp

/-- at one index of an ordered list -/
theorem ord_at {F : List Flt} (h : F.Pairwise Ord) (i : Nat) (hi : i < F.length) (h0 : ∀ f ∈ F, 0 ≤ f.at_) :
    (0 < i → (F[i - 1]'(by omega)).at_ ≤ F[i].at_) ∧ (F[i].kind ≠ 3 → lastP (F.take i) < F[i].at_) := by
  rw [List.pairwise_iff_getElem] at h
  refine ⟨fun hp => (h (i - 1) i (by omega) hi (by omega)).1, fun hk => ?_⟩
  rcases lastP_mem (F.take i) with e | ⟨g, h1, h2, h3⟩
  · have := h0 F[i] (List.getElem_mem hi); omega
  · rw [h3]
    obtain ⟨j, hj, rfl⟩ := List.getElem_of_mem h1
    rw [List.length_take] at hj
    rw [List.getElem_take] at h2 ⊢
    exact (h j i (by omega) hi (by omega)).2 h2 hk

end Go.Proofs.Qxb6601521a
