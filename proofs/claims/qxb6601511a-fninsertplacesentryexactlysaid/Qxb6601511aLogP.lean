/-
  Plain laws on places of a ring: no Go in sight.
-/
namespace Go.Proofs.Qxb6601511a

/-- the place of the entry k places after the first -/
def pos (size head k : Nat) : Nat := if head + k < size then head + k else head + k - size
/-- which entry lies at place p -/
def idx (size head p : Nat) : Nat := if head ≤ p then p - head else p + size - head

theorem pos_lt {size head k : Nat} (h : head < size) (hk : k < size) : pos size head k < size := by unfold pos; split <;> omega
theorem idx_lt {size head p : Nat} (h : head < size) (hp : p < size) : idx size head p < size := by unfold idx; split <;> omega
theorem idx_pos {size head k : Nat} (h : head < size) (hk : k < size) : idx size head (pos size head k) = k := by
  unfold idx pos; split <;> split <;> omega
theorem pos_idx {size head p : Nat} (h : head < size) (hp : p < size) : pos size head (idx size head p) = p := by
  unfold idx pos; split <;> split <;> omega
theorem pos_spec (size head k : Nat) : (((head : Int) + k < size ∧ (head : Int) + k = (pos size head k : Nat)) ∨ ((size : Int) ≤ head + k ∧ (head : Int) + k - size = (pos size head k : Nat))) := by
  unfold pos; split <;> omega

/-- entries with index above j (up to n) hold what stood one place before them -/
def shifted (size head n j : Nat) (E : Nat → Nat → Int) : Nat → Nat → Int := fun p =>
  if j < idx size head p ∧ idx size head p ≤ n then E (pos size head (idx size head p - 1)) else E p

theorem shifted_start {size head n : Nat} (E : Nat → Nat → Int) : shifted size head n n E = E := by
  funext p; unfold shifted; rw [if_neg (by omega)]

theorem shifted_before {size head n j : Nat} (E : Nat → Nat → Int) (h : head < size) (hj : 0 < j) (hs : j < size) : shifted size head n j E (pos size head (j - 1)) = E (pos size head (j - 1)) := by
  unfold shifted; rw [idx_pos h (by omega), if_neg (by omega)]

theorem shifted_step {size head n j : Nat} (E : Nat → Nat → Int) (h : head < size) (hj : 0 < j) (hn : j ≤ n) (hs : j < size) (p : Nat) (hp : p < size) :
    (if p = pos size head j then E (pos size head (j - 1)) else shifted size head n j E p) = shifted size head n (j - 1) E p := by
  unfold shifted
  by_cases e : p = pos size head j
  · subst e
    rw [idx_pos h hs]
    rw [if_pos rfl, if_pos (by omega)]
  · rw [if_neg e]
    have hk : idx size head p ≠ j := by
      intro e2; apply e; rw [← e2, pos_idx h hp]
    by_cases c : j < idx size head p ∧ idx size head p ≤ n
    · rw [if_pos c, if_pos (by omega)]
    · rw [if_neg c, if_neg (by omega)]

/-- how many places a full log gets -/
def newSize (size n : Nat) (limit : Int) : Nat := if (n : Int) < limit then min (max (2 * size) 1) limit.toNat else max (2 * size) 1

theorem newSize_gt (n : Nat) (limit : Int) : n < newSize n n limit := by unfold newSize; split <;> omega
theorem newSize_le (n : Nat) (limit : Int) (h : n ≤ 16384) : newSize n n limit ≤ 32768 := by unfold newSize; split <;> omega

theorem pos_mod {size head k : Nat} (h : head < size) (hk : k < size) : ((head : Int) + k) % size = (pos size head k : Nat) := by
  have e : ((head : Int) + k) % size = (((head + k) % size : Nat) : Int) := by rw [Int.natCast_emod, Int.natCast_add]
  rw [e]
  unfold pos
  split
  · rw [Nat.mod_eq_of_lt (by omega)]
  · rw [Nat.mod_eq_sub_mod (by omega), Nat.mod_eq_of_lt (by omega)]

/-- the state behind the growth -/
def size1 (size n : Nat) (limit : Int) : Nat := if n = size then newSize size n limit else size
def head1 (size head n : Nat) : Nat := if n = size then 0 else head
def ents1 (size head n : Nat) (E : Nat → Nat → Int) : Nat → Nat → Int := if n = size then (fun p => if p < n then E (pos size head p) else fun _ => 0) else E
/-- the state behind insert -/
def entsIns (size head n i : Nat) (E : Nat → Nat → Int) (e : Nat → Int) : Nat → Nat → Int := fun p =>
  if p = pos size head i then e else shifted size head n i E p
/-- the entries in order afterwards, as the law lists them -/
def wantW (size head i : Nat) (E : Nat → Nat → Int) (e : Nat → Int) (k : Nat) : Nat → Int :=
  if k = i then e else E (pos size head (if i < k then k - 1 else k))

/-- THE PLAIN LAW: what lies at place p behind insert is what the law wants there -/
theorem ins_at {size head n i : Nat} (limit : Int) (E : Nat → Nat → Int) (e : Nat → Int) (hn : n ≤ size) (hh : 0 < size → head < size) (hi : i ≤ n) (p : Nat) (hp : p < size1 size n limit) :
    entsIns (size1 size n limit) (head1 size head n) n i (ents1 size head n E) e p =
      (if idx (size1 size n limit) (head1 size head n) p < n + 1 then wantW size head i E e (idx (size1 size n limit) (head1 size head n) p) else if n < size then E p else fun _ => 0) := by
  by_cases hf : n = size
  · subst hf
    have hgt := newSize_gt n limit
    have e1 : size1 n n limit = newSize n n limit := by simp [size1]
    have e2 : head1 n head n = 0 := by simp [head1]
    have e3 : ents1 n head n E = fun p => if p < n then E (pos n head p) else fun _ => 0 := by simp [ents1]
    rw [e1] at hp
    rw [e1, e2, e3]
    generalize newSize n n limit = S at *
    have ei : idx S 0 p = p := by simp [idx]
    have ep : ∀ k, k < S → pos S 0 k = k := fun k hk => by simp [pos, hk]
    unfold entsIns shifted wantW
    rw [ei, ep i (by omega), ep (p - 1) (by omega)]
    by_cases c1 : p = i
    · subst c1
      have h1 : p < n + 1 := by omega
      simp [h1]
    · by_cases c2 : i < p
      · by_cases c3 : p ≤ n
        · have h1 : p < n + 1 := by omega
          have h2 : p - 1 < n := by omega
          simp [c1, c2, c3, h1, h2]
        · have h1 : ¬ p < n + 1 := by omega
          have h2 : ¬ p < n := by omega
          simp [c1, c3, h1, h2]
      · have h1 : p < n + 1 := by omega
        have h2 : p < n := by omega
        simp [c1, c2, h1, h2]
  · have hn' : n < size := by omega
    have hh' := hh (by omega)
    have e1 : size1 size n limit = size := by simp [size1, hf]
    have e2 : head1 size head n = head := by simp [head1, hf]
    have e3 : ents1 size head n E = E := by simp [ents1, hf]
    rw [e1] at hp
    rw [e1, e2, e3]
    have hk := idx_lt hh' hp
    have hpk := pos_idx hh' hp
    unfold entsIns shifted wantW
    generalize idx size head p = k at *
    by_cases c1 : k = i
    · subst c1; rw [if_pos hpk.symm, if_pos (by omega), if_pos rfl]
    · have c1' : p ≠ pos size head i := fun e => c1 (by
        have := idx_pos hh' (show i < size by omega)
        rw [← e, ← hpk, idx_pos hh' hk] at this
        exact this)
      rw [if_neg c1', if_neg c1]
      by_cases c2 : i < k ∧ k ≤ n
      · rw [if_pos c2, if_pos (by omega), if_pos c2.1]
      · rw [if_neg c2]
        by_cases c3 : k < n + 1
        · rw [if_pos c3, if_neg (by omega), hpk]
        · rw [if_neg c3, if_pos hn']

end Go.Proofs.Qxb6601511a
