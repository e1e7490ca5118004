/-
  plain law of the counting model
-/
import Derived.Test.Qxb6601521aPlaB
namespace Go.Proofs.Qxb6601521a

/-- how many of the first k calls have the id s -/
def cntC (cid : Nat → ByteArray) (s : ByteArray) : Nat → Nat
  | 0 => 0
  | k + 1 => cntC cid s k + if eqB (cid k) s then 1 else 0
/-- how many of k messages from lo on answer the id s -/
def cntR (M : Nat → Msg) (lo : Nat) (s : ByteArray) : Nat → Nat
  | 0 => 0
  | k + 1 => cntR M lo s k + if eqB (M (lo + k)).tcid s then 1 else 0

theorem cntC_le (cid : Nat → ByteArray) (s : ByteArray) : ∀ k, cntC cid s k ≤ k := by
  intro k
  induction k with
  | zero => exact Nat.le_refl _
  | succ k ih => unfold cntC; split <;> omega
theorem cntR_le (M : Nat → Msg) (lo : Nat) (s : ByteArray) : ∀ k, cntR M lo s k ≤ k := by
  intro k
  induction k with
  | zero => exact Nat.le_refl _
  | succ k ih => unfold cntR; split <;> omega
theorem eqB_iff (a b : ByteArray) : eqB a b = true ↔ a.toList = b.toList := by unfold eqB; exact beq_iff_eq
theorem eqB_congr (a : ByteArray) {b c : ByteArray} (h : b.toList = c.toList) : eqB a b = eqB a c := by unfold eqB; rw [h]
theorem cntC_congr (cid : Nat → ByteArray) {s t : ByteArray} (h : s.toList = t.toList) : ∀ k, cntC cid s k = cntC cid t k := by
  intro k
  induction k with
  | zero => rfl
  | succ k ih => unfold cntC; rw [ih, eqB_congr _ h]
theorem cntR_congr (M : Nat → Msg) (lo : Nat) {s t : ByteArray} (h : s.toList = t.toList) : ∀ k, cntR M lo s k = cntR M lo t k := by
  intro k
  induction k with
  | zero => rfl
  | succ k ih => unfold cntR; rw [ih, eqB_congr _ h]
theorem cntC_mono (cid : Nat → ByteArray) (s : ByteArray) : ∀ k i, i ≤ k → cntC cid s i ≤ cntC cid s k := by
  intro k
  induction k with
  | zero => intro i hi; have : i = 0 := by omega
            subst this; exact Nat.le_refl _
  | succ k ih => intro i hi
                 by_cases e : i = k + 1
                 · subst e; exact Nat.le_refl _
                 · have := ih i (by omega)
                   have e2 : cntC cid s (k + 1) = cntC cid s k + if eqB (cid k) s then 1 else 0 := rfl
                   omega
theorem cntC_bound (cid : Nat → ByteArray) (s : ByteArray) (r : Nat) : ∀ m, (∀ c, c < m → eqB (cid c) s = true → cntC cid s c < r) → cntC cid s m ≤ r := by
  intro m
  induction m with
  | zero => intro _; exact Nat.zero_le _
  | succ m ih =>
    intro h
    have h1 := ih fun c hc => h c (by omega)
    have h2 := h m (by omega)
    unfold cntC
    split
    · have := h2 (by assumption); omega
    · omega
theorem has_cnt (cid : Nat → ByteArray) (m : Nat) (s : ByteArray) : hasB cid m s = decide (0 < cntC cid s m) := by
  cases h : hasB cid m s
  · have : ∀ c, c < m → eqB (cid c) s = false := by
      intro c hc
      cases hq : eqB (cid c) s
      · rfl
      · rw [hasB_yes c hc hq] at h; cases h
    have h2 := cntC_bound cid s 0 m fun c hc he => by rw [this c hc] at he; cases he
    symm; rw [decide_eq_false_iff_not]; omega
  · unfold hasB at h
    rw [List.any_eq_true] at h
    obtain ⟨c, hc, he⟩ := h
    rw [List.mem_range] at hc
    symm; rw [decide_eq_true_iff]
    have h1 := cntC_mono cid s m (c + 1) hc
    have e2 : cntC cid s (c + 1) = cntC cid s c + 1 := by rw [cntC, if_pos he]
    omega

/-- the marks are the counts -/
def Marks (M : Nat → Msg) (a k : Nat) : Prop := ∀ c, c < (M a).nc → ansK M a k c = decide (cntC (M a).cid ((M a).cid c) c < cntR M (a + 1) ((M a).cid c) k)

theorem find_none {cid : Nat → ByteArray} {n : Nat} {ans : Nat → Bool} {s : ByteArray} (h : unansw cid n ans s = none) : ∀ j, j < n → eqB (cid j) s = true → ans j = true := by
  unfold unansw at h
  rw [List.find?_eq_none] at h
  intro j hj he
  have := h j (List.mem_range.2 hj)
  rw [he] at this
  simpa using this
theorem find_some {cid : Nat → ByteArray} {n : Nat} {ans : Nat → Bool} {s : ByteArray} {c : Nat} (h : unansw cid n ans s = some c) : c < n ∧ eqB (cid c) s = true ∧ ans c = false ∧ ∀ j, j < c → eqB (cid j) s = true → ans j = true := by
  unfold unansw at h
  rw [List.find?_range_eq_some] at h
  obtain ⟨h1, h2, h3⟩ := h
  rw [Bool.and_eq_true] at h1
  refine ⟨List.mem_range.1 h2, h1.1, by simpa using h1.2, fun j hj he => ?_⟩
  have := h3 j hj
  rw [he] at this
  simpa using this

theorem marks_none (M : Nat → Msg) (a k : Nat) (hm : Marks M a k) (h : unansw (M a).cid (M a).nc (ansK M a k) (M (a + 1 + k)).tcid = none) :
    ¬ cntR M (a + 1) (M (a + 1 + k)).tcid k < cntC (M a).cid (M (a + 1 + k)).tcid (M a).nc := by
  have h1 := find_none h
  have h2 := cntC_bound (M a).cid (M (a + 1 + k)).tcid (cntR M (a + 1) (M (a + 1 + k)).tcid k) (M a).nc fun c hc he => by
    have e := (eqB_iff _ _).1 he
    have := h1 c hc he
    rw [hm c hc, decide_eq_true_iff, cntC_congr _ e, cntR_congr _ _ e] at this
    exact this
  omega
theorem marks_some (M : Nat → Msg) (a k c : Nat) (hm : Marks M a k) (h : unansw (M a).cid (M a).nc (ansK M a k) (M (a + 1 + k)).tcid = some c) :
    cntC (M a).cid (M (a + 1 + k)).tcid c = cntR M (a + 1) (M (a + 1 + k)).tcid k ∧ cntR M (a + 1) (M (a + 1 + k)).tcid k < cntC (M a).cid (M (a + 1 + k)).tcid (M a).nc := by
  obtain ⟨h0, he, hn, h1⟩ := find_some h
  have h2 := cntC_bound (M a).cid (M (a + 1 + k)).tcid (cntR M (a + 1) (M (a + 1 + k)).tcid k) c fun j hj he => by
    have e := (eqB_iff _ _).1 he
    have := h1 j hj he
    rw [hm j (by omega), decide_eq_true_iff, cntC_congr _ e, cntR_congr _ _ e] at this
    exact this
  have e := (eqB_iff _ _).1 he
  rw [hm c h0, decide_eq_false_iff_not, cntC_congr _ e, cntR_congr _ _ e] at hn
  have h3 := cntC_mono (M a).cid (M (a + 1 + k)).tcid (M a).nc (c + 1) h0
  have h4 : cntC (M a).cid (M (a + 1 + k)).tcid (c + 1) = cntC (M a).cid (M (a + 1 + k)).tcid c + 1 := by rw [cntC, if_pos he]
  omega
theorem cntR_next (M : Nat → Msg) (a k : Nat) (x : ByteArray) : cntR M (a + 1) x (k + 1) = cntR M (a + 1) x k + if (M (a + 1 + k)).tcid.toList = x.toList then 1 else 0 := by
  rw [cntR]
  by_cases h : (M (a + 1 + k)).tcid.toList = x.toList
  · rw [if_pos h, if_pos ((eqB_iff _ _).2 h)]
  · rw [if_neg h, if_neg fun hc => h ((eqB_iff _ _).1 hc)]
theorem marks_step (M : Nat → Msg) (a k : Nat) (hm : Marks M a k) : Marks M a (k + 1) := by
  intro c hc
  rw [cntR_next]
  cases hu : unansw (M a).cid (M a).nc (ansK M a k) (M (a + 1 + k)).tcid with
  | none =>
    have ha : ansK M a (k + 1) = ansK M a k := by rw [ansK, hu]
    rw [ha]
    by_cases he : (M (a + 1 + k)).tcid.toList = ((M a).cid c).toList
    · have hy := find_none hu c hc ((eqB_iff _ _).2 he.symm)
      rw [hy]
      rw [hm c hc, decide_eq_true_iff] at hy
      symm; rw [decide_eq_true_iff]; omega
    · rw [if_neg he, hm c hc]; rfl
  | some c0 =>
    have ha : ansK M a (k + 1) = fun j => if j = c0 then true else ansK M a k j := by rw [ansK, hu]
    rw [ha]
    obtain ⟨h0, he0, hn, h1⟩ := find_some hu
    obtain ⟨h2, h3⟩ := marks_some M a k c0 hm hu
    have e0 := (eqB_iff _ _).1 he0
    by_cases he : (M (a + 1 + k)).tcid.toList = ((M a).cid c).toList
    · rw [if_pos he]
      have hmc := hm c hc
      rw [cntC_congr _ he.symm, cntR_congr _ _ he.symm] at hmc ⊢
      have h5 : cntC (M a).cid (M (a + 1 + k)).tcid (c0 + 1) = cntC (M a).cid (M (a + 1 + k)).tcid c0 + 1 := by rw [cntC, if_pos he0]
      by_cases e : c = c0
      · subst e
        simp only [if_pos]
        symm; rw [decide_eq_true_iff]; omega
      · simp only [if_neg e]
        rw [hmc]
        by_cases hlt : c < c0
        · have := cntC_mono (M a).cid (M (a + 1 + k)).tcid c0 (c + 1) hlt
          have h6 : cntC (M a).cid (M (a + 1 + k)).tcid (c + 1) = cntC (M a).cid (M (a + 1 + k)).tcid c + 1 := by rw [cntC, if_pos ((eqB_iff _ _).2 he.symm)]
          rw [decide_eq_true (by omega), decide_eq_true (by omega)]
        · have := cntC_mono (M a).cid (M (a + 1 + k)).tcid c (c0 + 1) (by omega)
          rw [decide_eq_false (by omega), decide_eq_false (by omega)]
    · rw [if_neg he]
      have e : c ≠ c0 := fun e => he (by subst e; exact e0.symm)
      simp only [if_neg e]
      exact hm c hc
theorem marks (M : Nat → Msg) (a : Nat) : ∀ k, Marks M a k := by
  intro k
  induction k with
  | zero => intro c hc; rfl
  | succ k ih => exact marks_step M a k ih

/-- the faults of the next tool message, by counting -/
theorem fltK_count (M : Nat → Msg) (a k : Nat) : fltK M a (k + 1) = fltK M a k ++ if cntR M (a + 1) (M (a + 1 + k)).tcid k < cntC (M a).cid (M (a + 1 + k)).tcid (M a).nc then [] else
    [⟨if 0 < cntC (M a).cid (M (a + 1 + k)).tcid (M a).nc then 2 else 1, (a + 1 + k : Nat), a, 0⟩] := by
  rw [fltK]
  congr 1
  cases hu : unansw (M a).cid (M a).nc (ansK M a k) (M (a + 1 + k)).tcid with
  | some c => rw [if_pos (marks_some M a k c (marks M a k) hu).2]
  | none =>
    rw [if_neg (marks_none M a k (marks M a k) hu), has_cnt]
    simp
/-- the next missing answer, by counting -/
theorem missK_count (M : Nat → Msg) (a k e c : Nat) (hc : c < (M a).nc) : missK a e (ansK M a k) (c + 1) = missK a e (ansK M a k) c ++
    if cntR M (a + 1) ((M a).cid c) k ≤ cntC (M a).cid ((M a).cid c) c then [⟨3, e, a, c⟩] else [] := by
  rw [missK]
  congr 1
  rw [marks M a k c hc]
  by_cases h : cntR M (a + 1) ((M a).cid c) k ≤ cntC (M a).cid ((M a).cid c) c
  · rw [if_pos h, decide_eq_false (by omega)]; rfl
  · rw [if_neg h, decide_eq_true (by omega)]; rfl

/-- what is left of the history's faults at index j, in or out of a reply's tool messages -/
def hrest (M : Nat → Msg) (n j : Nat) (flag : Bool) : List Flt := if flag then histFrom M n (n - (j + toolRun M n j)) (j + toolRun M n j) else histFrom M n (n - j) j

theorem toolRun_tool (M : Nat → Msg) (n j : Nat) (h : j < n) (ht : toolB (M j).role = true) : toolRun M n j = toolRun M n (j + 1) + 1 := by
  have h1 := toolRun_le M n (j + 1)
  obtain ⟨h2, h3⟩ := toolRun_spec M n (j + 1)
  refine toolRun_eq (by omega) ?_ ?_
  · intro t htt
    cases t with
    | zero => exact ht
    | succ t => have := h2 t (by omega); rw [show j + (t + 1) = j + 1 + t by omega]; exact this
  · intro h; rw [show j + (toolRun M n (j + 1) + 1) = j + 1 + toolRun M n (j + 1) by omega]; exact h3 (by omega)
theorem toolRun_none (M : Nat → Msg) (n j : Nat) (h : j < n) (ht : toolB (M j).role = false) : toolRun M n j = 0 := toolRun_eq (by omega) (fun t ht => by omega) fun _ => ht
theorem hrest_stop (M : Nat → Msg) (n j : Nat) (flag : Bool) (h : n ≤ j) : hrest M n j flag = [] := by
  unfold hrest; split
  · exact hist_stop M n _ _ (by omega)
  · exact hist_stop M n _ _ h
theorem hrest_in (M : Nat → Msg) (n j : Nat) (h : j < n) (ht : toolB (M j).role = true) : hrest M n j true = hrest M n (j + 1) true := by
  unfold hrest
  rw [if_pos rfl, if_pos rfl, toolRun_tool M n j h ht, show j + (toolRun M n (j + 1) + 1) = j + 1 + toolRun M n (j + 1) by omega]
theorem hrest_stray (M : Nat → Msg) (n j : Nat) (h : j < n) (ht : toolB (M j).role = true) : hrest M n j false = ⟨0, j, -1, 0⟩ :: hrest M n (j + 1) false := by
  unfold hrest
  rw [if_neg (by decide), if_neg (by decide), hist_tool M n j h ht]
theorem hrest_flag (M : Nat → Msg) (n j : Nat) (flag : Bool) (h : j < n) (ht : toolB (M j).role = false) : hrest M n j flag = histFrom M n (n - j) j := by
  unfold hrest
  rw [toolRun_none M n j h ht]
  split <;> rfl
theorem hrest_ask (M : Nat → Msg) (n j : Nat) (flag : Bool) (h : j < n) (ht : toolB (M j).role = false) (ha : asstB (M j).role = true) : hrest M n j flag = blockF M n j ++ hrest M n (j + 1) true := by
  rw [hrest_flag M n j flag h ht, hist_asst M n j h ht ha]
  rfl
theorem hrest_other (M : Nat → Msg) (n j : Nat) (flag : Bool) (h : j < n) (ht : toolB (M j).role = false) (ha : asstB (M j).role = false) : hrest M n j flag = hrest M n (j + 1) false := by
  rw [hrest_flag M n j flag h ht, hist_other M n j h ht ha]
  rfl
theorem hrest_start (M : Nat → Msg) (n : Nat) : hrest M n 0 false = histF M n := rfl

end Go.Proofs.Qxb6601521a
