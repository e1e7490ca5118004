/-
  Contracts: historyFaults, ZZHistoryFaults, ZZResultFaults.
-/
import Derived.Test.Qxb6601521aHistB
namespace Go.Proofs.Qxb6601521a
open Go.RowKit Go.Deep

theorem hist_stop (M : Nat → Msg) (n f i : Nat) (h : n ≤ i) : histFrom M n f i = [] := by
  cases f with
  | zero => rfl
  | succ f => unfold histFrom; rw [if_pos h]
theorem hist_tool (M : Nat → Msg) (n i : Nat) (h : i < n) (ht : toolB (M i).role = true) : histFrom M n (n - i) i = ⟨0, i, -1, 0⟩ :: histFrom M n (n - (i + 1)) (i + 1) := by
  rw [show n - i = (n - (i + 1)) + 1 by omega, histFrom, if_neg (by omega), if_pos ht]
theorem hist_asst (M : Nat → Msg) (n i : Nat) (h : i < n) (ht : toolB (M i).role = false) (ha : asstB (M i).role = true) :
    histFrom M n (n - i) i = blockF M n i ++ histFrom M n (n - (i + 1 + toolRun M n (i + 1))) (i + 1 + toolRun M n (i + 1)) := by
  have e := histFrom_fuel M n (n - (i + 1)) (n - (i + 1 + toolRun M n (i + 1))) (i + 1 + toolRun M n (i + 1)) (by omega) (by omega)
  rw [show n - i = (n - (i + 1)) + 1 by omega, histFrom, if_neg (by omega), if_neg (by rw [ht]; simp), if_pos ha, e]
theorem hist_other (M : Nat → Msg) (n i : Nat) (h : i < n) (ht : toolB (M i).role = false) (ha : asstB (M i).role = false) : histFrom M n (n - i) i = histFrom M n (n - (i + 1)) (i + 1) := by
  rw [show n - i = (n - (i + 1)) + 1 by omega, histFrom, if_neg (by omega), if_neg (by rw [ht]; simp), if_neg (by rw [ha]; simp)]

/-- the bound on the faults' number at index i -/
def lim : Nat := 1048577
theorem lim_pos : 1 ≤ lim := by decide
theorem lim_ge (c : Nat) (h : c ≤ 1048576) : c ≤ lim := Nat.le_trans h (by decide)
def bnd (i : Nat) : Nat := i * lim
theorem bnd_succ (i T : Nat) : bnd (i + 1 + T) = bnd i + lim + T * lim := by unfold bnd; rw [Nat.add_mul, Nat.add_mul, Nat.one_mul]
theorem bnd_step (L i : Nat) (h : L ≤ bnd i) : L ≤ bnd (i + 1) := by have := bnd_succ i 0; simp at this; omega
theorem bnd_one (L i : Nat) (h : L ≤ bnd i) : L + 1 ≤ bnd (i + 1) := by have := bnd_succ i 0; have := lim_pos; simp at *; omega
theorem bnd_block (L i T B c : Nat) (h : L ≤ bnd i) (hb : B ≤ T + c) (hc : c ≤ 1048576) : L + B ≤ bnd (i + 1 + T) := by
  have h1 := lim_ge c hc
  have h2 : T ≤ T * lim := Nat.le_mul_of_pos_right T lim_pos
  rw [bnd_succ]; omega
theorem bnd_max (L i : Nat) (h : L ≤ bnd i) (hi : i ≤ 1048576) : L ≤ 1099512676352 :=
  Nat.le_trans h (Nat.le_trans (Nat.mul_le_mul_right lim hi) (by decide))

set_option maxRecDepth 100000 in
set_option maxHeartbeats 1000000 in
theorem history32 (a : Option Addr) (n c : Nat) (M : Nat → Msg) (w : World) (hn : n ≤ 1048576) (hnc : ∀ i, i < n → (M i).nc ≤ 1048576) (hM : Msgs w a n M) :
    Calls Try.prog 32 #[.slice a n c] w fun e w' => ∃ v', e = .returned v' ∧ Below w.heap.size w w' ∧ Flts w' w.heap.size v' (histF M n) := by
  have HN : Hid (∀ i, i < n → (M i).nc ≤ 1048576) := hnc
  clear hnc
  go_enter Try.func32, Try.ntmps32
  go_wp2
  go_loopw [3, 4] (fun v t wr => ∃ (i : Nat) (F : List Flt), i ≤ n ∧ t = .int .i64 i ∧ Below w.heap.size w wr ∧ Flts wr w.heap.size v F ∧ F.length ≤ bnd i ∧ Hid (F ++ histFrom M n (n - i) i = histF M n)) (fun _ t _ => n - (intOf t).toNat)
  case atStart => exact ⟨0, [], Nat.zero_le _, rfl, Below.refl _ _, Flts.nil _ _, Nat.zero_le _, rfl⟩
  case round =>
    obtain ⟨i, F, hi, rfl, hb, hF, hl, hE⟩ := hrel
    have hz := hb.size
    have hmx : F.length ≤ 4398046511103 := Nat.le_trans (bnd_max _ _ hl (by omega)) (by omega)
    by_cases hlt : i < n
    · obtain ⟨b, o, rfl, hmsg⟩ := hM (by omega)
      obtain ⟨s1, s7, f, a2, c2, a5, n5, c5, a6, n6, c6, g0, _, _, _, _, _, _, _, _⟩ := (hmsg i hlt).ext (Nat.le_refl _) hb
      cases ht : toolB (M i).role
      · have ht' : ((M i).role.toList == [116, 111, 111, 108]) = false := ht
        cases ha : asstB (M i).role
        · have ha' : ((M i).role.toList == [97, 115, 115, 105, 115, 116, 97, 110, 116]) = false := ha
          have hE2 := hE.out
          rw [hist_other M n i hlt ht ha] at hE2
          have HE2 : Hid (F ++ histFrom M n (n - (i + 1)) (i + 1) = histF M n) := hE2
          clear hE2
          go_wp2
          go_roundw
          case rel => exact ⟨i + 1, F, by omega, by go_num, hb, hF, bnd_step _ _ hl, HE2⟩
          case measure => simp [intOf]; omega
        · have ha' : ((M i).role.toList == [97, 115, 115, 105, 115, 116, 97, 110, 116]) = true := ha
          have hE2 := hE.out
          rw [hist_asst M n i hlt ht ha] at hE2
          have HE2 : Hid (F ++ blockF M n i ++ histFrom M n (n - (i + 1 + toolRun M n (i + 1))) (i + 1 + toolRun M n (i + 1)) = histF M n) := by
            show _ = _; rw [List.append_assoc]; exact hE2
          clear hE2
          have htr := toolRun_le M n (i + 1)
          have hbl := blockF_len M n i
          have hni := HN.out i hlt
          go_wp2_with fail
          have C := result33 w.heap.size u3 F (some ⟨b, o, none⟩) n c M i w wr hn hni hlt hM (Nat.le_refl _) hb hz hF (by have := bnd_max _ _ hl (by omega); omega)
          refine C.mono ?_
          clear C
          rintro e w1 ⟨v1, rfl, hb1, hz1, hF1⟩
          go_wp2
          go_roundw
          case rel =>
            refine ⟨i + 1 + toolRun M n (i + 1), _, by omega, by go_num, hb1, hF1, ?_, HE2⟩
            rw [List.length_append]
            exact bnd_block _ _ _ _ _ hl hbl hni
          case measure => simp [intOf]; omega
      · have ht' : ((M i).role.toList == [116, 111, 111, 108]) = true := ht
        have hE2 := hE.out
        rw [hist_tool M n i hlt ht] at hE2
        have HE2 : Hid (F ++ [⟨0, i, -1, 0⟩] ++ histFrom M n (n - (i + 1)) (i + 1) = histF M n) := by
          show _ = _; rw [List.append_assoc]; exact hE2
        clear hE2
        go_wp2_with (at_builtin; refine wpList_append_flt wr rfl _ _ rfl w.heap.size u3 F rfl hF ⟨0, i, -1, 0⟩ rfl hmx hz ?_; intro g cap w4 hF4 hg4 hgg)
        go_roundw
        case rel =>
          exact ⟨i + 1, _, by omega, by go_num, (hb.alloc hz _).grown hg4 (by simp; omega) (fun k hk => (hF.lt k hk).1), by simpa using hF4, by rw [List.length_append]; exact bnd_one _ _ hl, HE2⟩
        case measure => simp [intOf]; omega
    · have hE2 := hE.out
      rw [hist_stop M n _ i (by omega), List.append_nil] at hE2
      have HE2 : Hid (F = histF M n) := hE2
      clear hE2
      go_wp2
      go_ret
      exact ⟨_, rfl, hb, by rw [← HE2.out]; exact hF⟩

set_option maxHeartbeats 400000 in
theorem zzhistory12 (a : Option Addr) (n c : Nat) (M : Nat → Msg) (w : World) (hn : n ≤ 1048576) (hnc : ∀ i, i < n → (M i).nc ≤ 1048576) (hM : Msgs w a n M) :
    Calls Try.prog 12 #[.slice a n c] w fun e w' => ∃ v', e = .returned v' ∧ Below w.heap.size w w' ∧ Flts w' w.heap.size v' (histF M n) := by
  have C := history32 a n c M w hn hnc hM
  clear hM hnc
  go_enter Try.func12, Try.ntmps12
  go_wp2_with fail
  refine C.mono ?_
  clear C
  rintro e w1 ⟨v1, rfl, hr⟩
  go_wp2
  go_ret
  exact ⟨_, rfl, hr⟩

set_option maxHeartbeats 400000 in
theorem zzresult24 (a : Option Addr) (n c : Nat) (M : Nat → Msg) (asked : Nat) (w : World) (hn : n ≤ 1048576) (hnc : (M asked).nc ≤ 1048576) (hask : asked < n) (hM : Msgs w a n M) :
    Calls Try.prog 24 #[.slice none 0 0, .slice a n c, .int .i64 asked] w fun e w' => ∃ v', e = .returned (.tuple #[v', .int .i64 (toolRun M n (asked + 1))]) ∧ Below w.heap.size w w' ∧ Flts w' w.heap.size v' (blockF M n asked) := by
  have C := result33 w.heap.size (.slice none 0 0) [] a n c M asked w w hn hnc hask hM (Nat.le_refl _) (Below.refl _ _) (Nat.le_refl _) (Flts.nil _ _) (by simp)
  clear hM hnc
  go_enter Try.func24, Try.ntmps24
  go_wp2_with fail
  refine C.mono ?_
  clear C
  rintro e w1 ⟨v1, rfl, hb, _, hF⟩
  go_wp2
  go_ret2
  exact ⟨_, rfl, hb, by simpa using hF⟩

end Go.Proofs.Qxb6601521a
