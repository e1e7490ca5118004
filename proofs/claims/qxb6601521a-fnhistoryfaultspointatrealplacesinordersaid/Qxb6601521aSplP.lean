/-
  Plain law: the faults of a history cut before a message that is no tool message.
-/
import Derived.Test.Qxb6601521aHistC
namespace Go.Proofs.Qxb6601521a

/-- a fault moved up by k -/
def Flt.up (k : Nat) (f : Flt) : Flt := ⟨f.kind, f.at_ + k, if 0 ≤ f.asked then f.asked + k else f.asked, f.call⟩

theorem tw_spec (p : Nat → Bool) : ∀ m, ((List.range m).takeWhile p).length ≤ m ∧ (∀ t, t < ((List.range m).takeWhile p).length → p t = true) ∧ (((List.range m).takeWhile p).length < m → p ((List.range m).takeWhile p).length = false) := by
  intro m
  induction m with
  | zero => exact ⟨by simp, fun t ht => by simp at ht, fun h => by omega⟩
  | succ m ih =>
    obtain ⟨h1, h2, h3⟩ := ih
    rw [List.range_succ, List.takeWhile_append]
    by_cases e : ((List.range m).takeWhile p).length = m
    · rw [if_pos (by simpa using e)]
      cases hq : p m
      · simp only [List.takeWhile_cons, hq]
        simp
        exact ⟨fun t ht => h2 t (by omega), hq⟩
      · simp only [List.takeWhile_cons, hq]
        simp
        intro t ht
        by_cases et : t = m
        · subst et; exact hq
        · exact h2 t (by omega)
    · rw [if_neg (by simpa using e)]
      exact ⟨by omega, h2, fun h => h3 (by omega)⟩

theorem toolRun_spec (M : Nat → Msg) (n i : Nat) : (∀ t, t < toolRun M n i → toolB (M (i + t)).role = true) ∧ (i + toolRun M n i < n → toolB (M (i + toolRun M n i)).role = false) := by
  obtain ⟨_, h2, h3⟩ := tw_spec (fun t => toolB (M (i + t)).role) (n - i)
  exact ⟨h2, fun h => h3 (by have : toolRun M n i < n - i := by omega
                             exact this)⟩

theorem toolRun_cut (M : Nat → Msg) (n k i : Nat) (hk : k ≤ n) (hi : i ≤ k) (hb : k = n ∨ toolB (M k).role = false) : toolRun M n i = toolRun M k i := by
  have h1 := toolRun_le M k i
  obtain ⟨hspec, hstop⟩ := toolRun_spec M k i
  refine toolRun_eq (by omega) hspec fun h => ?_
  by_cases e : i + toolRun M k i < k
  · exact hstop e
  · have e2 : i + toolRun M k i = k := by omega
    rw [e2]
    rcases hb with hb | hb
    · omega
    · exact hb

theorem blockF_cut (M : Nat → Msg) (n k i : Nat) (hk : k ≤ n) (hi : i < k) (hb : k = n ∨ toolB (M k).role = false) : blockF M n i = blockF M k i := by
  unfold blockF; rw [toolRun_cut M n k (i + 1) hk (by omega) hb]

/-- the first part -/
theorem hist_cut (M : Nat → Msg) (n k : Nat) (hk : k ≤ n) (hb : k = n ∨ toolB (M k).role = false) : ∀ d i, k - i ≤ d → i ≤ k → histFrom M n (n - i) i = histFrom M k (k - i) i ++ histFrom M n (n - k) k := by
  intro d
  induction d with
  | zero =>
    intro i hd hi
    have : i = k := by omega
    subst this
    rw [hist_stop M i (i - i) i (Nat.le_refl _), List.nil_append]
  | succ d ih =>
    intro i hd hi
    by_cases e : i = k
    · subst e
      rw [hist_stop M i (i - i) i (Nat.le_refl _), List.nil_append]
    · have hlt : i < k := by omega
      cases ht : toolB (M i).role
      · cases ha : asstB (M i).role
        · rw [hist_other M n i (by omega) ht ha, hist_other M k i hlt ht ha, ih (i + 1) (by omega) (by omega)]
        · have htr := toolRun_le M k (i + 1)
          rw [hist_asst M n i (by omega) ht ha, hist_asst M k i hlt ht ha, toolRun_cut M n k (i + 1) hk (by omega) hb, ih (i + 1 + toolRun M k (i + 1)) (by omega) (by omega), blockF_cut M n k i hk hlt hb, List.append_assoc]
      · rw [hist_tool M n i (by omega) ht, hist_tool M k i hlt ht, ih (i + 1) (by omega) (by omega)]
        rfl

/-- the second part, moved -/
theorem toolRun_up (M : Nat → Msg) (n k i : Nat) : toolRun M n (k + i) = toolRun (fun t => M (k + t)) (n - k) i := by
  unfold toolRun
  rw [show n - (k + i) = n - k - i by omega]
  congr 2
  funext t
  rw [Nat.add_assoc]
theorem ansK_up (M : Nat → Msg) (k i : Nat) : ∀ t, ansK M (k + i) t = ansK (fun t => M (k + t)) i t := by
  intro t
  induction t with
  | zero => rfl
  | succ t ih =>
    unfold ansK
    rw [ih, show k + i + 1 + t = k + (i + 1 + t) by omega]
theorem fltK_up (M : Nat → Msg) (k i : Nat) : ∀ t, fltK M (k + i) t = (fltK (fun t => M (k + t)) i t).map (Flt.up k) := by
  intro t
  induction t with
  | zero => rfl
  | succ t ih =>
    unfold fltK
    rw [ih, ansK_up, show k + i + 1 + t = k + (i + 1 + t) by omega, List.map_append]
    congr 1
    split
    · rfl
    · simp [Flt.up]; omega
theorem missK_up (k i e : Nat) (ans : Nat → Bool) : ∀ c, missK (k + i) (k + e) ans c = (missK i e ans c).map (Flt.up k) := by
  intro c
  induction c with
  | zero => rfl
  | succ c ih =>
    unfold missK
    rw [ih, List.map_append]
    congr 1
    split
    · rfl
    · simp [Flt.up]; omega
theorem blockF_up (M : Nat → Msg) (n k i : Nat) : blockF M n (k + i) = (blockF (fun t => M (k + t)) (n - k) i).map (Flt.up k) := by
  unfold blockF
  rw [show k + i + 1 = k + (i + 1) by omega, toolRun_up, List.map_append, fltK_up, ansK_up, Nat.add_assoc k, missK_up]
theorem hist_up (M : Nat → Msg) (n k : Nat) : ∀ d i, n - k - i ≤ d → histFrom M n (n - (k + i)) (k + i) = (histFrom (fun t => M (k + t)) (n - k) (n - k - i) i).map (Flt.up k) := by
  intro d
  induction d with
  | zero =>
    intro i hd
    rw [hist_stop M n _ _ (by omega), hist_stop _ (n - k) _ i (by omega)]; rfl
  | succ d ih =>
    intro i hd
    by_cases e : n ≤ k + i
    · rw [hist_stop M n _ _ e, hist_stop _ (n - k) _ i (by omega)]; rfl
    · cases ht : toolB (M (k + i)).role
      · cases ha : asstB (M (k + i)).role
        · rw [hist_other M n (k + i) (by omega) ht ha, hist_other (fun t => M (k + t)) (n - k) i (by omega) ht ha, Nat.add_assoc, ih (i + 1) (by omega), Nat.sub_sub]
        · rw [hist_asst M n (k + i) (by omega) ht ha, hist_asst (fun t => M (k + t)) (n - k) i (by omega) ht ha, List.map_append, blockF_up, show k + i + 1 = k + (i + 1) by omega, toolRun_up, Nat.add_assoc k, ih (i + 1 + toolRun (fun t => M (k + t)) (n - k) (i + 1)) (by omega)]
      · rw [hist_tool M n (k + i) (by omega) ht, hist_tool (fun t => M (k + t)) (n - k) i (by omega) ht, Nat.add_assoc, ih (i + 1) (by omega), List.map_cons]
        congr 1
        simp [Flt.up]; omega

/-- THE PLAIN LAW -/
theorem hist_split (M : Nat → Msg) (n k : Nat) (hk : k ≤ n) (hb : k = n ∨ toolB (M k).role = false) : histF M n = histF M k ++ (histF (fun t => M (k + t)) (n - k)).map (Flt.up k) := by
  unfold histF
  have h1 := hist_cut M n k hk hb k 0 (by omega) (by omega)
  have h2 := hist_up M n k (n - k) 0 (by omega)
  simp only [Nat.sub_zero, Nat.add_zero] at h1 h2
  rw [h1, h2]

end Go.Proofs.Qxb6601521a
