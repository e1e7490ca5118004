/-
  Plain functions: what historyFaults and resultFaults compute. No Go in sight but the words of Base.
-/
import Derived.Test.Qxb6601521aHistA
namespace Go.Proofs.Qxb6601521a

/-- a fault: its kind, where, at which message, which call -/
structure Flt where
  kind : Int
  at_ : Int
  asked : Int
  call : Int

/-- the tool messages in a row from index i on, of n messages in all -/
def toolRun (M : Nat → Msg) (n i : Nat) : Nat := ((List.range (n - i)).takeWhile fun k => toolB (M (i + k)).role).length

theorem takeWhile_len {p : Nat → Bool} : ∀ (n k : Nat), k ≤ n → (∀ t, t < k → p t = true) → (k < n → p k = false) → ((List.range n).takeWhile p).length = k := by
  intro n
  induction n with
  | zero => intro k hk _ _; simp; omega
  | succ n ih =>
    intro k hk h1 h2
    rw [List.range_succ, List.takeWhile_append]
    by_cases hkn : k ≤ n
    · rw [ih k hkn h1 (fun h => h2 (by omega))]
      by_cases e : k = n
      · subst e
        have := h2 (by omega)
        simp [this]
      · rw [if_neg (by simp; omega)]
        exact ih k hkn h1 (fun h => h2 (by omega))
    · have : k = n + 1 := by omega
      subst this
      have hn : ((List.range n).takeWhile p).length = n := ih n (Nat.le_refl _) (fun t ht => h1 t (by omega)) (fun h => by omega)
      rw [if_pos (by simpa using hn)]
      simp [h1 n (by omega)]

theorem toolRun_eq {M : Nat → Msg} {n i k : Nat} (hk : i + k ≤ n) (h1 : ∀ t, t < k → toolB (M (i + t)).role = true) (h2 : i + k < n → toolB (M (i + k)).role = false) : toolRun M n i = k :=
  takeWhile_len (n - i) k (by omega) h1 (fun h => h2 (by omega))

/-- which calls are answered behind the first k tool messages after asked -/
def ansK (M : Nat → Msg) (asked : Nat) : Nat → Nat → Bool
  | 0 => fun _ => false
  | k + 1 => match unansw (M asked).cid (M asked).nc (ansK M asked k) (M (asked + 1 + k)).tcid with
    | some c => fun j => if j = c then true else ansK M asked k j
    | none => ansK M asked k

/-- the faults of the first k tool messages after asked -/
def fltK (M : Nat → Msg) (asked : Nat) : Nat → List Flt
  | 0 => []
  | k + 1 => fltK M asked k ++ match unansw (M asked).cid (M asked).nc (ansK M asked k) (M (asked + 1 + k)).tcid with
    | some _ => []
    | none => [⟨if hasB (M asked).cid (M asked).nc (M (asked + 1 + k)).tcid then 2 else 1, (asked + 1 + k : Nat), asked, 0⟩]

/-- the missing ones among the first c calls -/
def missK (asked e : Nat) (ans : Nat → Bool) : Nat → List Flt
  | 0 => []
  | c + 1 => missK asked e ans c ++ if ans c then [] else [⟨3, e, asked, c⟩]

/-- all faults of the reply at asked -/
def blockF (M : Nat → Msg) (n asked : Nat) : List Flt :=
  fltK M asked (toolRun M n (asked + 1)) ++ missK asked (asked + 1 + toolRun M n (asked + 1)) (ansK M asked (toolRun M n (asked + 1))) (M asked).nc

theorem fltK_len (M : Nat → Msg) (asked k : Nat) : (fltK M asked k).length ≤ k := by
  induction k with
  | zero => exact Nat.le_refl _
  | succ k ih => unfold fltK; split <;> simp <;> omega
theorem missK_len (asked e : Nat) (ans : Nat → Bool) (c : Nat) : (missK asked e ans c).length ≤ c := by
  induction c with
  | zero => exact Nat.le_refl _
  | succ c ih => unfold missK; split <;> simp <;> omega
theorem toolRun_le (M : Nat → Msg) (n i : Nat) : toolRun M n i ≤ n - i := by
  unfold toolRun
  have := (List.takeWhile_sublist (fun k => toolB (M (i + k)).role) (l := List.range (n - i))).length_le
  simpa using this
theorem blockF_len (M : Nat → Msg) (n asked : Nat) : (blockF M n asked).length ≤ toolRun M n (asked + 1) + (M asked).nc := by
  unfold blockF
  have h1 := fltK_len M asked (toolRun M n (asked + 1))
  have h2 := missK_len asked (asked + 1 + toolRun M n (asked + 1)) (ansK M asked (toolRun M n (asked + 1))) (M asked).nc
  simp; omega

/-- the faults from index i on; fuel rounds are left -/
def histFrom (M : Nat → Msg) (n : Nat) : Nat → Nat → List Flt
  | 0, _ => []
  | f + 1, i =>
    if n ≤ i then [] else
    if toolB (M i).role then ⟨0, i, -1, 0⟩ :: histFrom M n f (i + 1)
    else if asstB (M i).role then blockF M n i ++ histFrom M n f (i + 1 + toolRun M n (i + 1))
    else histFrom M n f (i + 1)

/-- all faults of a history of n messages -/
def histF (M : Nat → Msg) (n : Nat) : List Flt := histFrom M n n 0

theorem histFrom_fuel (M : Nat → Msg) (n : Nat) : ∀ f g i, n ≤ i + f → n ≤ i + g → histFrom M n f i = histFrom M n g i := by
  intro f
  induction f with
  | zero =>
    intro g i h1 h2
    cases g with
    | zero => rfl
    | succ g => unfold histFrom; rw [if_pos (by omega)]
  | succ f ih =>
    intro g i h1 h2
    cases g with
    | zero => unfold histFrom; rw [if_pos (by omega)]
    | succ g =>
      unfold histFrom
      by_cases h : n ≤ i
      · rw [if_pos h, if_pos h]
      · rw [if_neg h, if_neg h, ih g (i + 1) (by omega) (by omega), ih g (i + 1 + toolRun M n (i + 1)) (by omega) (by omega)]

end Go.Proofs.Qxb6601521a
