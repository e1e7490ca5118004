/-
  Contracts: zzIsTool, zzIsAssistant, zzAdd, the closure of resultFaults, slices.IndexFunc, slices.ContainsFunc, unanswered.
-/
import Derived.Test.Qxb6601521aBase
namespace Go.Proofs.Qxb6601521a
open Go.RowKit

set_option maxHeartbeats 400000 in
theorem isTool17 (r c t p : ByteArray) (f : Bool) (x2 x5 x6 : Option Addr) (n2 n5 n6 c2 c5 c6 : Nat) (w : World) :
    Calls Try.prog 17 #[.agg #[.string r, .string c, .slice x2 n2 c2, .string t, .bool f, .slice x5 n5 c5, .slice x6 n6 c6, .string p]] w fun e w' => e = .returned (.bool (toolB r)) ∧ Below w.heap.size w w' := by
  go_enter Try.func17, Try.ntmps17
  go_wp2
  go_ret
  exact ⟨rfl, (Below.refl _ _).alloc (Nat.le_refl _) _⟩

set_option maxHeartbeats 400000 in
theorem isAsst18 (r c t p : ByteArray) (f : Bool) (x2 x5 x6 : Option Addr) (n2 n5 n6 c2 c5 c6 : Nat) (w : World) :
    Calls Try.prog 18 #[.agg #[.string r, .string c, .slice x2 n2 c2, .string t, .bool f, .slice x5 n5 c5, .slice x6 n6 c6, .string p]] w fun e w' => e = .returned (.bool (asstB r)) ∧ Below w.heap.size w w' := by
  go_enter Try.func18, Try.ntmps18
  go_wp2
  go_ret
  exact ⟨rfl, (Below.refl _ _).alloc (Nat.le_refl _) _⟩

set_option maxHeartbeats 400000 in
theorem clos38 (r c t p : ByteArray) (B : Nat) (s : ByteArray) (w : World) (hc : w.cell? ⟨B, 0, none⟩ = some (.string s)) :
    Calls Try.prog 38 #[.agg #[.string r, .string c, .string t, .string p], .pointer (some ⟨B, 0, none⟩)] w fun e w' => e = .returned (.bool (eqB r s)) ∧ Below w.heap.size w w' := by
  have hb := (Below.refl w.heap.size w).alloc (Nat.le_refl _) (.cells #[.string r, .string c, .string t, .string p] 64)
  have hc' := cell_ext (Nat.le_refl _) hb hc
  go_enter Try.func38, Try.ntmps38
  go_wp2
  go_ret
  exact ⟨rfl, hb⟩

/-- does one of the first n ids read s? -/
def hasB (cid : Nat → ByteArray) (n : Nat) (s : ByteArray) : Bool := (List.range n).any fun j => eqB (cid j) s

theorem hasB_no {cid : Nat → ByteArray} {n : Nat} {s : ByteArray} (h : ∀ j, j < n → eqB (cid j) s = false) : hasB cid n s = false := by
  unfold hasB; rw [List.any_eq_false]; intro j hj; rw [h j (List.mem_range.1 hj)]; simp
theorem hasB_yes {cid : Nat → ByteArray} {n : Nat} {s : ByteArray} (k : Nat) (hk : k < n) (h : eqB (cid k) s = true) : hasB cid n s = true := by
  unfold hasB; rw [List.any_eq_true]; exact ⟨k, List.mem_range.2 hk, h⟩

set_option maxHeartbeats 400000 in
theorem index39 (a : Option Addr) (n c : Nat) (cid : Nat → ByteArray) (B : Nat) (s : ByteArray) (w : World) (hn : n ≤ 1048576) (hcs : CallsAt w a n cid) (hc : w.cell? ⟨B, 0, none⟩ = some (.string s)) :
    Calls Try.prog 39 #[.slice a n c, .func (.func 38) #[] #[.pointer (some ⟨B, 0, none⟩)]] w fun e w' => ∃ r : Int, e = .returned (.int .i64 r) ∧ -1 ≤ r ∧ decide (0 ≤ r) = hasB cid n s ∧ Below w.heap.size w w' := by
  go_enter Try.func39, Try.ntmps39
  go_wp2
  go_loopw [8] (fun t wr => ∃ k : Nat, k ≤ n ∧ t = .int .i64 k ∧ Hid (∀ j, j < k → eqB (cid j) s = false) ∧ Below w.heap.size w wr) (fun t _ => n - (intOf t).toNat)
  case atStart => exact ⟨0, Nat.zero_le _, rfl, (fun j hj => by omega), Below.refl _ _⟩
  case round =>
    obtain ⟨k, hk, rfl, hno, hb⟩ := hrel
    by_cases hlt : k < n
    · obtain ⟨b, o, rfl, hcell⟩ := hcs (by omega)
      obtain ⟨s1, s2, s3, e0, e1, e2, e3⟩ := hcell k hlt
      have e0 := cell_ext (Nat.le_refl _) hb e0
      have e1 := cell_ext (Nat.le_refl _) hb e1
      have e2 := cell_ext (Nat.le_refl _) hb e2
      have e3 := cell_ext (Nat.le_refl _) hb e3
      have hcr := cell_ext (Nat.le_refl _) hb hc
      clear hcell hc hcs
      go_wp2_with fail
      have C := clos38 (cid k) s1 s2 s3 B s wr hcr
      refine C.mono ?_
      clear C
      rintro e w1 ⟨rfl, hb1⟩
      have hb2 := hb.trans (hb1.mono hb.size)
      cases hq : eqB (cid k) s
      · go_wp2
        go_roundw
        case rel => exact ⟨k + 1, by omega, by go_num, (fun j hj => by
                      by_cases e : j = k
                      · subst e; exact hq
                      · exact hno.out j (by omega)), hb2⟩
        case measure => simp [intOf]; omega
      · go_wp2
        go_ret
        exact ⟨_, rfl, by omega, by rw [hasB_yes k hlt hq]; simp, hb2⟩
    · go_wp2
      go_ret
      exact ⟨_, rfl, by omega, by rw [hasB_no fun j hj => hno.out j (by omega)]; rfl, hb⟩

set_option maxHeartbeats 400000 in
theorem contains37 (a : Option Addr) (n c : Nat) (cid : Nat → ByteArray) (B : Nat) (s : ByteArray) (w : World) (hn : n ≤ 1048576) (hcs : CallsAt w a n cid) (hc : w.cell? ⟨B, 0, none⟩ = some (.string s)) :
    Calls Try.prog 37 #[.slice a n c, .func (.func 38) #[] #[.pointer (some ⟨B, 0, none⟩)]] w fun e w' => e = .returned (.bool (hasB cid n s)) ∧ Below w.heap.size w w' := by
  have C := index39 a n c cid B s w hn hcs hc
  clear hcs hc
  go_enter Try.func37, Try.ntmps37
  go_wp2_with fail
  refine C.mono ?_
  clear C
  rintro e w1 ⟨r, rfl, hr1, hr2, hb⟩
  have HR : Hid (decide (0 ≤ r) = hasB cid n s) := hr2
  clear hr2
  go_wp2
  go_ret
  exact ⟨by rw [← HR.out]; rfl, hb⟩

/-- the first call with the id s that is not marked, or -1 -/
def unansw (cid : Nat → ByteArray) (n : Nat) (ans : Nat → Bool) (s : ByteArray) : Option Nat := (List.range n).find? fun j => eqB (cid j) s && !ans j

theorem unansw_no {cid : Nat → ByteArray} {n : Nat} {ans : Nat → Bool} {s : ByteArray} (h : ∀ j, j < n → (eqB (cid j) s && !ans j) = false) : unansw cid n ans s = none := by
  unfold unansw; rw [List.find?_eq_none]; intro j hj; rw [h j (List.mem_range.1 hj)]; simp
theorem unansw_yes {cid : Nat → ByteArray} {n : Nat} {ans : Nat → Bool} {s : ByteArray} (k : Nat) (hk : k < n) (h : ∀ j, j < k → (eqB (cid j) s && !ans j) = false) (hy : (eqB (cid k) s && !ans k) = true) : unansw cid n ans s = some k := by
  unfold unansw
  rw [List.find?_range_eq_some]
  exact ⟨hy, List.mem_range.2 hk, fun j hj => by rw [h j hj]; rfl⟩

/-- the answer as Go gives it -/
def optInt : Option Nat → Int
  | some k => k
  | none => -1

theorem row_ext {w w' : World} {H b n : Nat} {t : TypeId} {f : Nat → Value} (r : w.rowIs b t n f) (hb : Below H w w') (hlt : b < H) : w'.rowIs b t n f := r.of_block (hb.block b hlt)

set_option maxHeartbeats 400000 in
theorem unanswered36 (a : Option Addr) (n c A : Nat) (cid : Nat → ByteArray) (ans : Nat → Bool) (s : ByteArray) (w : World) (hn : n ≤ 1048576) (hcs : CallsAt w a n cid) (hr : w.rowIs A 4 n (fun j => .bool (ans j))) :
    Calls Try.prog 36 #[.slice a n c, .slice (some ⟨A, 0, none⟩) n n, .string s] w fun e w' => e = .returned (.int .i64 (optInt (unansw cid n ans s))) ∧ Below w.heap.size w w' := by
  have hA := hr.lt
  go_enter Try.func36, Try.ntmps36
  go_wp2
  go_loopw [11] (fun t wr => ∃ k : Nat, k ≤ n ∧ t = .int .i64 k ∧ Hid (∀ j, j < k → (eqB (cid j) s && !ans j) = false) ∧ Below w.heap.size w wr) (fun t _ => n - (intOf t).toNat)
  case atStart => exact ⟨0, Nat.zero_le _, rfl, (fun j hj => by omega), Below.refl _ _⟩
  case round =>
    obtain ⟨k, hk, rfl, hno, hb⟩ := hrel
    by_cases hlt : k < n
    · obtain ⟨b, o, rfl, hcell⟩ := hcs (by omega)
      obtain ⟨s1, s2, s3, e0, e1, e2, e3⟩ := hcell k hlt
      have e0 := cell_ext (Nat.le_refl _) hb e0
      have e1 := cell_ext (Nat.le_refl _) hb e1
      have e2 := cell_ext (Nat.le_refl _) hb e2
      have e3 := cell_ext (Nat.le_refl _) hb e3
      have hb2 := hb.alloc hb.size (.cells #[.string (cid k), .string s1, .string s2, .string s3] 64)
      have ha : (wr.alloc (.cells #[.string (cid k), .string s1, .string s2, .string s3] 64)).cell? ⟨A, k, none⟩ = some (.bool (ans k)) := (row_ext hr hb2 hA).cell hlt
      clear hcell hcs
      cases hq : eqB (cid k) s
      · have hd : ((cid k).toList == s.toList) = false := hq
        go_wp2
        go_roundw
        case rel => exact ⟨k + 1, by omega, by go_num, (fun j hj => by
                      by_cases e : j = k
                      · subst e; rw [hq]; rfl
                      · exact hno.out j (by omega)), hb2⟩
        case measure => simp [intOf]; omega
      · have hd : ((cid k).toList == s.toList) = true := hq
        cases hq2 : ans k
        · rw [hq2] at ha
          go_wp2
          go_ret
          exact ⟨by rw [unansw_yes k hlt hno.out (by rw [hq, hq2]; rfl)]; rfl, hb2⟩
        · rw [hq2] at ha
          go_wp2
          go_roundw
          case rel => exact ⟨k + 1, by omega, by go_num, (fun j hj => by
                        by_cases e : j = k
                        · subst e; rw [hq, hq2]; rfl
                        · exact hno.out j (by omega)), hb2⟩
          case measure => simp [intOf]; omega
    · go_wp2
      go_ret
      exact ⟨by rw [unansw_no fun j hj => hno.out j (by omega)]; rfl, hb⟩

end Go.Proofs.Qxb6601521a
