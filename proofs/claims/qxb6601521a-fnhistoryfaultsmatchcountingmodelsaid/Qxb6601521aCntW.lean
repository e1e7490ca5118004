/-
  zzHistoryModel; the walk of FnHistoryFaultsMatchCountingModel.
-/
import Derived.Test.Qxb6601521aHistN
import Derived.Test.Qxb6601521aZb9
import Derived.Test.Qxb6601521aHistF
import Derived.Test.Qxb6601521aHistG
namespace Go.Proofs.Qxb6601521a
open Go.RowKit Go.Deep

/-- where the model stands at index j -/
def HRel (M : Nat → Msg) (n j : Nat) (u : Value) (F : List Flt) : Prop := ∃ flag : Bool, u = .bool flag ∧ F ++ hrest M n j flag = histF M n

set_option maxRecDepth 100000 in
set_option maxHeartbeats 2000000 in
theorem hmodel14 (a : Option Addr) (n c : Nat) (M : Nat → Msg) (w : World) (hn : n ≤ 1048576) (hnc : ∀ i, i < n → (M i).nc ≤ 1048576) (hM : HMsgs w a n M) :
    Calls Try.prog 14 #[.slice a n c] w fun e w' => ∃ v', e = .returned v' ∧ Below w.heap.size w w' ∧ ZFlts w' w.heap.size v' (histF M n) := by
  have HM : Hid (HMsgs w a n M ∧ ∀ i, i < n → (M i).nc ≤ 1048576) := ⟨hM, hnc⟩
  clear hM hnc
  have hl := histF_len M n hn HM.out.2
  go_enter Try.func14, Try.ntmps14
  go_wp2_with fail
  go_loopg [3, 4, 5] n (fun gk v u t wr => ∃ (j : Nat) (F : List Flt), j ≤ n ∧ n ≤ j + gk ∧ t = .int .i64 j ∧ Below w.heap.size w wr ∧ ZFlts wr w.heap.size v F ∧ HRel M n j u F)
  case atStart => exact ⟨0, [], Nat.zero_le _, by omega, rfl, Below.refl _ _, ZFlts.nil _ _, false, rfl, rfl⟩
  case round =>
    obtain ⟨j, F, hj, hgj, rfl, hb, hF, flag, rfl, hE⟩ := hrel
    have hz := hb.size
    have hFl : F.length ≤ 1099512676352 := by
      have := congrArg List.length hE
      rw [List.length_append] at this
      omega
    have HE : Hid (F ++ hrest M n j flag = histF M n) := hE
    clear hE
    by_cases hlt : j < n
    · obtain ⟨b, o, rfl, hm⟩ := (HM.out.1.ext (Nat.le_refl _) hb).at j hlt
      obtain ⟨s1, s7, ff, a2, c2, a5, c5, a6, c6, e0, e1, e2, e3, e4, e5, e6, e7, _⟩ := hm
      go_wp2_with fail
      have C := isTool17 (M j).role s1 (M j).tcid s7 ff a2 a5 a6 (M j).nc (M j).nt (M j).np c2 c5 c6 wr
      refine C.mono ?_; clear C
      rintro e w1 ⟨rfl, hb1⟩
      have hb2 := hb.trans (hb1.mono hb.size)
      have hz2 := hb2.size
      have hF1 := hF.later hb1
      cases ht : toolB (M j).role
      · have e0 := cell_ext (Nat.le_refl _) hb1 e0
        have e1 := cell_ext (Nat.le_refl _) hb1 e1
        have e2 := cell_ext (Nat.le_refl _) hb1 e2
        have e3 := cell_ext (Nat.le_refl _) hb1 e3
        have e4 := cell_ext (Nat.le_refl _) hb1 e4
        have e5 := cell_ext (Nat.le_refl _) hb1 e5
        have e6 := cell_ext (Nat.le_refl _) hb1 e6
        have e7 := cell_ext (Nat.le_refl _) hb1 e7
        have HTl : Hid (toolB (M j).role = false) := ht
        clear ht hb hb1 hz hF
        go_wp2_with fail
        have C := isAsst18 (M j).role s1 (M j).tcid s7 ff a2 a5 a6 (M j).nc (M j).nt (M j).np c2 c5 c6 w1
        refine C.mono ?_; clear C
        rintro e w2 ⟨rfl, hb3'⟩
        have hb3 := hb2.trans (hb3'.mono hb2.size)
        have hF2 := hF1.later hb3'
        have hz3 := hb3.size
        clear hb2 hb3' hF1 hz2 e0 e1 e2 e3 e4 e5 e6 e7
        cases ha : asstB (M j).role
        · have HE2 : HRel M n (j + 1) (.bool false) F := ⟨false, rfl, by rw [← hrest_other M n j flag hlt HTl.out ha]; exact HE.out⟩
          clear ha
          go_wp2
          go_roundg (n - (j + 1))
          case measure => omega
          case rel => exact ⟨j + 1, F, by omega, by omega, by go_num, hb3, hF2, HE2⟩
        · have HE2 : HRel M n (j + 1) (.bool true) (F ++ blockF M n j) := ⟨true, rfl, by rw [List.append_assoc, ← hrest_ask M n j flag hlt HTl.out ha]; exact HE.out⟩
          clear ha
          go_wp2_with fail
          have C := model26 w.heap.size u3 F (some ⟨b, o, none⟩) n c M j w w2 hn (HM.out.2 j hlt) hlt HM.out.1 (Nat.le_refl _) hb3 hz3 hF2 (by omega)
          refine C.mono ?_; clear C
          rintro e w3 ⟨v3, rfl, hb4, hz4, hF4⟩
          go_wp2
          go_roundg (n - (j + 1))
          case measure => omega
          case rel => exact ⟨j + 1, _, by omega, by omega, by go_num, hb4, hF4, HE2⟩
      · have HTl : Hid (toolB (M j).role = true) := ht
        clear ht e0 e1 e2 e3 e4 e5 e6 e7
        cases flag
        · have HE2 : HRel M n (j + 1) (.bool false) (F ++ [⟨0, j, -1, 0⟩]) := ⟨false, rfl, by rw [List.append_assoc]; have := HE.out; rw [hrest_stray M n j hlt HTl.out] at this; exact this⟩
          go_wp2_with (at_builtin; refine wpList_append_zflt w1 rfl _ _ rfl w.heap.size u3 F rfl hF1 ⟨0, j, -1, 0⟩ rfl (by omega) hz2 ?_; intro g cap w4 hF4 hg4 hgg)
          go_roundg (n - (j + 1))
          case measure => omega
          case rel => exact ⟨j + 1, _, by omega, by omega, by go_num, (hb2.alloc hz2 _).grown hg4 (by simp; omega) (fun k hk => (hF1.lt k hk).1), by simpa using hF4, HE2⟩
        · have HE2 : HRel M n (j + 1) (.bool true) F := ⟨true, rfl, by rw [← hrest_in M n j hlt HTl.out]; exact HE.out⟩
          go_wp2
          go_roundg (n - (j + 1))
          case measure => omega
          case rel => exact ⟨j + 1, F, by omega, by omega, by go_num, hb2, hF1, HE2⟩
    · have HE2 : Hid (F = histF M n) := by
        have := HE.out
        rw [hrest_stop M n j flag (by omega), List.append_nil] at this
        exact this
      have hd : decide ((j : Int) < (n : Int)) = false := by simp; omega
      go_wp2
      go_ret
      exact ⟨_, rfl, hb, by rw [← HE2.out]; exact hF⟩

set_option maxRecDepth 100000 in
set_option maxHeartbeats 2000000 in
theorem walk3 (a : Option Addr) (n c : Nat) (M : Nat → Msg) (W : World) (hn : n ≤ maxLen) (hMx : ∀ i, i < n → (M i).nc ≤ maxLen ∧ (M i).nt ≤ maxLen ∧ (M i).np ≤ maxLen) (hM : HMsgs W a n M) :
    Calls Try.prog 3 #[.slice a n c] W fun e w' => e = .returned (.bool true) ∧ Below W.heap.size W w' := by
  unfold maxLen at hn hMx
  have HM : Hid (HMsgs W a n M ∧ ∀ i, i < n → (M i).nc ≤ 9223372036854775807 ∧ (M i).nt ≤ 9223372036854775807 ∧ (M i).np ≤ 9223372036854775807) := ⟨hM, fun i hi => by have := hMx i hi; omega⟩
  clear hM hMx
  have e25 := fun w a n c n' c' => Lib.run_eql_slice_nil (P := Try.prog) w 25 _ a n c n' c' Try.underlying25
  have C := bytes9 a n c M W HM.out.1
  go_enter Try.func3, Try.ntmps3
  go_wp2_with fail
  refine C.mono ?_; clear C
  rintro e w1 ⟨⟨b, rfl⟩, rfl⟩
  cases b
  · go_wp2
    go_ret
    exact ⟨rfl, Below.refl _ _⟩
  go_wp2_with fail
  have C := msgsBytes10 a n c M w1 (by omega) HM.out.1 HM.out.2
  refine C.mono ?_; clear C
  rintro e w2 ⟨t, rfl, hb2, ht⟩
  by_cases hcap : 1048576 < t
  · go_wp2
    go_ret
    exact ⟨rfl, hb2⟩
  obtain ⟨hn', hbnd⟩ := ht (by omega)
  have HB : Hid (∀ i, i < n → (M i).nc ≤ 1048576 ∧ (M i).nt ≤ 1048576 ∧ (M i).np ≤ 1048576) := hbnd
  clear hbnd ht
  go_wp2_with fail
  have C := toMsgs13 a n c M w2 hn' HB.out (HM.out.1.ext (Nat.le_refl _) hb2)
  refine C.mono ?_; clear C
  rintro e w4 ⟨a', rfl, hb4', hms⟩
  have hb4 := hb2.trans (hb4'.mono hb2.size)
  clear hb4' hb2
  go_wp2_with fail
  have C := zzhistory12 a' n n M w4 hn' (fun i hi => (HB.out i hi).1) hms
  refine C.mono ?_; clear C
  rintro e w5 ⟨v5, rfl, hb5', hF5⟩
  have hb5 := hb4.trans (hb5'.mono hb4.size)
  have hl := histF_len M n hn' (fun i hi => (HB.out i hi).1)
  clear hb5' hb4 hms
  go_wp2_with fail
  have C := from11 w4.heap.size v5 (histF M n) w5 hF5 (by omega)
  refine C.mono ?_; clear C
  rintro e w6 ⟨r1, rfl, hb6', hz6⟩
  have hb6 := hb5.trans (hb6'.mono hb5.size)
  clear hb6' hb5 hF5
  go_wp2_with fail
  have C := hmodel14 a n c M w6 hn' (fun i hi => (HB.out i hi).1) (HM.out.1.ext (Nat.le_refl _) hb6)
  refine C.mono ?_; clear C
  rintro e w7 ⟨r2, rfl, hb7', hF7⟩
  have hb7 := hb6.trans (hb7'.mono hb6.size)
  have hz7 := hz6.ext (Nat.le_refl _) hb7'
  have hy7 := hF7.zfs
  clear hb7' hb6 hz6 hF7
  generalize histF M n = A at *
  have C := same15 A r1 r2 _ _ w7 (by omega) hz7 hy7
  rcases hz7 with ⟨rfl, rfl⟩ | ⟨h0, g, cap, rfl, _⟩
  · obtain rfl : r2 = .slice none 0 0 := by
      rcases hy7 with ⟨_, h⟩ | ⟨h, _⟩
      · exact h
      · exact absurd rfl h
    go_wp2_with fail
    refine C.mono ?_; clear C
    rintro e w8 ⟨rfl, hb8⟩
    have hb9 := hb7.trans (hb8.mono hb7.size)
    go_wp2
    go_ret
    exact ⟨rfl, hb9⟩
  · obtain ⟨g2, cap2, rfl⟩ : ∃ g2 cap2, r2 = .slice (some ⟨g2, 0, none⟩) A.length cap2 := by
      rcases hy7 with ⟨h, _⟩ | ⟨_, g2, cap2, h, _⟩
      · exact absurd h h0
      · exact ⟨g2, cap2, h⟩
    go_wp2_with fail
    refine C.mono ?_; clear C
    rintro e w8 ⟨rfl, hb8⟩
    have hb9 := hb7.trans (hb8.mono hb7.size)
    go_wp2
    go_ret
    exact ⟨rfl, hb9⟩

end Go.Proofs.Qxb6601521a
