/-
  plain law of the reply; counts
-/
import Derived.Test.Qxb6601521aSplP
namespace Go.Proofs.Qxb6601521a

theorem asst_notTool {r : ByteArray} (h : asstB r = true) : toolB r = false := by
  unfold asstB at h
  unfold toolB
  rw [beq_iff_eq] at h
  rw [h]; rfl

/-- what a fault of a reply's tool messages says -/
def PlacedOf (M : Nat → Msg) (n a : Nat) (f : Flt) : Prop :=
  ∃ j : Nat, f.at_ = j ∧ a < j ∧ j < a + 1 + toolRun M n (a + 1) ∧ f.asked = a ∧ f.call = 0 ∧ f.kind = if hasB (M a).cid (M a).nc (M j).tcid then 2 else 1
/-- what a missing answer says -/
def MissOf (M : Nat → Msg) (n a : Nat) (f : Flt) : Prop :=
  ∃ c : Nat, f.at_ = (a + 1 + toolRun M n (a + 1) : Nat) ∧ c < (M a).nc ∧ f.asked = a ∧ f.call = c ∧ f.kind = 3

theorem fltK_mem (M : Nat → Msg) (a : Nat) : ∀ k, ∀ f ∈ fltK M a k, ∃ j : Nat, f.at_ = j ∧ a < j ∧ j < a + 1 + k ∧ f.asked = a ∧ f.call = 0 ∧ f.kind = if hasB (M a).cid (M a).nc (M j).tcid then 2 else 1 := by
  intro k
  induction k with
  | zero => intro f hf; simp [fltK] at hf
  | succ k ih =>
    intro f hf
    unfold fltK at hf
    rw [List.mem_append] at hf
    rcases hf with hf | hf
    · obtain ⟨j, h1, h2, h3, h4⟩ := ih f hf
      exact ⟨j, h1, h2, by omega, h4⟩
    · revert hf
      split
      · intro hf; simp at hf
      · intro hf
        rw [List.mem_singleton] at hf
        subst hf
        exact ⟨a + 1 + k, rfl, by omega, by omega, rfl, rfl, rfl⟩
theorem missK_mem (a e : Nat) (ans : Nat → Bool) : ∀ m, ∀ f ∈ missK a e ans m, ∃ c : Nat, f.at_ = e ∧ c < m ∧ f.asked = a ∧ f.call = c ∧ f.kind = 3 := by
  intro m
  induction m with
  | zero => intro f hf; simp [missK] at hf
  | succ m ih =>
    intro f hf
    unfold missK at hf
    rw [List.mem_append] at hf
    rcases hf with hf | hf
    · obtain ⟨c, h1, h2, h3⟩ := ih f hf
      exact ⟨c, h1, by omega, h3⟩
    · revert hf
      split
      · intro hf; simp at hf
      · intro hf
        rw [List.mem_singleton] at hf
        subst hf
        exact ⟨m, rfl, by omega, rfl, rfl, rfl⟩
theorem blockF_mem (M : Nat → Msg) (n a : Nat) (f : Flt) (hf : f ∈ blockF M n a) : PlacedOf M n a f ∨ MissOf M n a f := by
  unfold blockF at hf
  rw [List.mem_append] at hf
  rcases hf with hf | hf
  · obtain ⟨j, h⟩ := fltK_mem M a _ f hf
    exact .inl ⟨j, h⟩
  · obtain ⟨c, h⟩ := missK_mem a _ _ _ f hf
    exact .inr ⟨c, h⟩
theorem blockF_kind (M : Nat → Msg) (n a : Nat) (f : Flt) (hf : f ∈ blockF M n a) : f.kind ≠ 0 ∧ f.asked = a := by
  rcases blockF_mem M n a f hf with ⟨j, _, _, _, h, _, hk⟩ | ⟨c, _, _, h, _, hk⟩
  · refine ⟨?_, h⟩
    rw [hk]; split <;> decide
  · exact ⟨by rw [hk]; decide, h⟩

/-- a stray result: at index p; q tool messages stand right before it, and no assistant message before those -/
def StrayOf (M : Nat → Msg) (n i : Nat) (f : Flt) : Prop :=
  ∃ p : Nat, f = ⟨0, p, -1, 0⟩ ∧ i ≤ p ∧ p < n ∧ toolB (M p).role = true

theorem hist_mem (M : Nat → Msg) (n : Nat) : ∀ d i, n - i ≤ d → ∀ f ∈ histFrom M n (n - i) i, StrayOf M n i f ∨ ∃ a, i ≤ a ∧ a < n ∧ asstB (M a).role = true ∧ f ∈ blockF M n a := by
  intro d
  induction d with
  | zero => intro i hd f hf; rw [hist_stop M n _ i (by omega)] at hf; simp at hf
  | succ d ih =>
    intro i hd f hf
    by_cases e : n ≤ i
    · rw [hist_stop M n _ i e] at hf; simp at hf
    · have hlt : i < n := by omega
      cases ht : toolB (M i).role
      · cases ha : asstB (M i).role
        · rw [hist_other M n i hlt ht ha] at hf
          rcases ih (i + 1) (by omega) f hf with ⟨p, h1, h2, h3⟩ | ⟨a, h1, h2⟩
          · exact .inl ⟨p, h1, by omega, h3⟩
          · exact .inr ⟨a, by omega, h2⟩
        · rw [hist_asst M n i hlt ht ha, List.mem_append] at hf
          rcases hf with hf | hf
          · exact .inr ⟨i, Nat.le_refl _, hlt, ha, hf⟩
          · rcases ih (i + 1 + toolRun M n (i + 1)) (by omega) f hf with ⟨p, h1, h2, h3⟩ | ⟨a, h1, h2⟩
            · exact .inl ⟨p, h1, by omega, h3⟩
            · exact .inr ⟨a, by omega, h2⟩
      · rw [hist_tool M n i hlt ht, List.mem_cons] at hf
        rcases hf with hf | hf
        · exact .inl ⟨i, hf, Nat.le_refl _, hlt, ht⟩
        · rcases ih (i + 1) (by omega) f hf with ⟨p, h1, h2, h3⟩ | ⟨a, h1, h2⟩
          · exact .inl ⟨p, h1, by omega, h3⟩
          · exact .inr ⟨a, by omega, h2⟩

/-- how many faults there are at most -/
theorem hist_len (M : Nat → Msg) (n : Nat) (hnc : ∀ i, i < n → (M i).nc ≤ 1048576) : ∀ d i, n - i ≤ d → i ≤ n → (histFrom M n (n - i) i).length + bnd i ≤ bnd n := by
  intro d
  induction d with
  | zero => intro i hd hi; rw [hist_stop M n _ i (by omega)]; have : i = n := by omega
            subst this; simp
  | succ d ih =>
    intro i hd hi
    by_cases e : n ≤ i
    · rw [hist_stop M n _ i e]; have : i = n := by omega
      subst this; simp
    · have hlt : i < n := by omega
      have hs := bnd_succ i 0
      have hp := lim_pos
      simp at hs
      cases ht : toolB (M i).role
      · cases ha : asstB (M i).role
        · rw [hist_other M n i hlt ht ha]
          have := ih (i + 1) (by omega) (by omega)
          omega
        · have htr := toolRun_le M n (i + 1)
          rw [hist_asst M n i hlt ht ha, List.length_append]
          have h1 := ih (i + 1 + toolRun M n (i + 1)) (by omega) (by omega)
          have h2 := blockF_len M n i
          have h3 := bnd_block (bnd i) i (toolRun M n (i + 1)) _ _ (Nat.le_refl _) h2 (hnc i hlt)
          omega
      · rw [hist_tool M n i hlt ht, List.length_cons]
        have := ih (i + 1) (by omega) (by omega)
        omega
theorem histF_len (M : Nat → Msg) (n : Nat) (hn : n ≤ 1048576) (hnc : ∀ i, i < n → (M i).nc ≤ 1048576) : (histF M n).length ≤ 1099512676352 := by
  have := hist_len M n hnc n 0 (by omega) (by omega)
  exact bnd_max _ n (by unfold histF; simp [bnd] at *; omega) hn

/-- the indices of a fault -/
theorem histF_range (M : Nat → Msg) (n : Nat) (f : Flt) (hf : f ∈ histF M n) : 0 ≤ f.at_ ∧ f.at_ ≤ n ∧ -1 ≤ f.asked ∧ f.asked < n := by
  rcases hist_mem M n n 0 (by omega) f hf with ⟨p, h1, h2, h3, _⟩ | ⟨a, h1, h2, _, h3⟩
  · subst h1; simp; omega
  · have htr := toolRun_le M n (a + 1)
    rcases blockF_mem M n a f h3 with ⟨j, q1, q2, q3, q4, _⟩ | ⟨c, q1, q2, q3, _⟩ <;> omega

/-- THE PLAIN LAW of the reply: its faults among the whole history's -/
theorem hist_at_reply (M : Nat → Msg) (n a : Nat) (hlt : a < n) (ha : asstB (M a).role = true) :
    histF M n = histF M a ++ (blockF M n a ++ histFrom M n (n - (a + 1 + toolRun M n (a + 1))) (a + 1 + toolRun M n (a + 1))) := by
  have ht := asst_notTool ha
  have h1 := hist_cut M n a (by omega) (.inr ht) a 0 (by omega) (by omega)
  simp only [Nat.sub_zero] at h1
  unfold histF
  rw [h1, hist_asst M n a hlt ht ha]
theorem reply_sel (M : Nat → Msg) (n a : Nat) (hlt : a < n) (ha : asstB (M a).role = true) : (histF M n).filter (fun f => f.asked == (a : Int)) = blockF M n a := by
  rw [hist_at_reply M n a hlt ha, List.filter_append, List.filter_append]
  have e1 : (histF M a).filter (fun f => f.asked == (a : Int)) = [] := by
    rw [List.filter_eq_nil_iff]
    intro f hf
    have := histF_range M a f hf
    simp; omega
  have e2 : (blockF M n a).filter (fun f => f.asked == (a : Int)) = blockF M n a := by
    rw [List.filter_eq_self]
    intro f hf
    simp [(blockF_kind M n a f hf).2]
  have e3 : (histFrom M n (n - (a + 1 + toolRun M n (a + 1))) (a + 1 + toolRun M n (a + 1))).filter (fun f => f.asked == (a : Int)) = [] := by
    rw [List.filter_eq_nil_iff]
    intro f hf
    rcases hist_mem M n n _ (by omega) f hf with ⟨p, h1, h2, h3, _⟩ | ⟨b, h1, h2, _, h3⟩
    · subst h1; simp
    · have := (blockF_kind M n b f h3).2
      simp; omega
  rw [e1, e2, e3]; simp
theorem reply_stray (M : Nat → Msg) (n a : Nat) (hlt : a < n) (ha : asstB (M a).role = true) (f : Flt) (hf : f ∈ histF M n) (hs : f.kind = 0 ∨ f.asked = -1) : f.at_ ≤ a ∨ a + toolRun M n (a + 1) < f.at_ := by
  rw [hist_at_reply M n a hlt ha, List.mem_append, List.mem_append] at hf
  rcases hf with hf | hf | hf
  · have := histF_range M a f hf; omega
  · obtain ⟨h1, h2⟩ := blockF_kind M n a f hf; omega
  · rcases hist_mem M n n _ (by omega) f hf with ⟨p, h1, h2, h3, _⟩ | ⟨b, h1, h2, _, h3⟩
    · subst h1; simp; omega
    · obtain ⟨h1, h2⟩ := blockF_kind M n b f h3; omega

end Go.Proofs.Qxb6601521a
