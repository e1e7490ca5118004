/-
  The walk of FnResultFaultsAreHistoryFaultsOfThatReply.
-/
import Derived.Test.Qxb6601521aPlaA
import Derived.Test.Qxb6601521aZb29
import Derived.Test.Qxb6601521aHistF
import Derived.Test.Qxb6601521aHistG
import Derived.Test.Qxb6601521aHistZ
namespace Go.Proofs.Qxb6601521a
open Go.RowKit Go.Deep

/-- the i-th fault -/
def fat (A : List Flt) (i : Nat) : Flt := ⟨fget A i 0, fget A i 1, fget A i 2, fget A i 3⟩
theorem fat_get (A : List Flt) (i : Nat) (hi : i < A.length) : fat A i = A[i] := by
  have e1 : A.getD i Flt.zero = A[i] := by simp [List.getD_eq_getElem?_getD, hi]
  unfold fat fget
  rw [e1]
  rfl
theorem fat_mem (A : List Flt) (i : Nat) (hi : i < A.length) : fat A i ∈ A := by rw [fat_get A i hi]; exact List.getElem_mem hi
/-- those of the reply at k among the first i -/
def selK (A : List Flt) (k i : Nat) : List Flt := (A.take i).filter fun f => f.asked == (k : Int)
theorem selK_yes (A : List Flt) (k i : Nat) (hi : i < A.length) (h : fget A i 2 = k) : selK A k (i + 1) = selK A k i ++ [fat A i] := by
  unfold selK
  rw [List.take_add_one, List.getElem?_eq_getElem hi, List.filter_append, fat_get A i hi]
  have e : A[i].asked = k := by rw [← fat_get A i hi]; exact h
  simp [e]
theorem selK_no (A : List Flt) (k i : Nat) (hi : i < A.length) (h : ¬ fget A i 2 = k) : selK A k (i + 1) = selK A k i := by
  unfold selK
  rw [List.take_add_one, List.getElem?_eq_getElem hi, List.filter_append]
  have e : ¬ A[i].asked = k := by rw [← fat_get A i hi]; exact h
  simp [e]
theorem selK_len (A : List Flt) (k i : Nat) : (selK A k i).length ≤ A.length := by
  unfold selK
  refine Nat.le_trans (List.length_filter_le _ _) ?_
  rw [List.length_take]; omega

set_option maxRecDepth 100000 in
set_option maxHeartbeats 1000000 in
theorem walk7 (a : Option Addr) (n c : Nat) (k : Int) (M : Nat → Msg) (W : World) (hn : n ≤ maxLen) (hMx : ∀ i, i < n → (M i).nc ≤ maxLen ∧ (M i).nt ≤ maxLen ∧ (M i).np ≤ maxLen) (hM : HMsgs W a n M) (hk1 : -9223372036854775808 ≤ k) (hk2 : k ≤ 9223372036854775807) :
    Calls Try.prog 7 #[.slice a n c, .int .i64 k] W fun e w' => e = .returned (.bool true) ∧ Below W.heap.size W w' := by
  unfold maxLen at hn hMx
  have HM : Hid (HMsgs W a n M ∧ ∀ i, i < n → (M i).nc ≤ 9223372036854775807 ∧ (M i).nt ≤ 9223372036854775807 ∧ (M i).np ≤ 9223372036854775807) := ⟨hM, fun i hi => by have := hMx i hi; omega⟩
  clear hM hMx
  have C := bytes29 a n c k M W HM.out.1
  go_enter Try.func7, Try.ntmps7
  go_wp2_with fail
  refine C.mono ?_; clear C
  rintro e w1 ⟨⟨b, rfl⟩, rfl⟩
  cases b
  · go_wp2
    go_ret
    exact ⟨rfl, Below.refl _ _⟩
  go_wp2_with fail
  have C := msgsBytes10 a n c M w1 (by omega) HM.out.1 HM.out.2
  refine C.mono ?_; clear C
  rintro e w2 ⟨t, rfl, hb2, ht⟩
  by_cases hcap : 1048576 < t
  · go_wp2
    go_ret
    exact ⟨rfl, hb2⟩
  obtain ⟨hn', hbnd⟩ := ht (by omega)
  have HB : Hid (∀ i, i < n → (M i).nc ≤ 1048576 ∧ (M i).nt ≤ 1048576 ∧ (M i).np ≤ 1048576) := hbnd
  clear hbnd ht
  by_cases hk0 : k < 0
  · go_wp2
    go_ret
    exact ⟨rfl, hb2⟩
  by_cases hkn : (n : Int) ≤ k
  · go_wp2
    go_ret
    exact ⟨rfl, hb2⟩
  obtain ⟨k, rfl⟩ := Int.eq_ofNat_of_zero_le (by omega : 0 ≤ k)
  have hlt : k < n := by omega
  obtain ⟨b, o, rfl, hmsg⟩ := HM.out.1.2 (by omega)
  obtain ⟨s1, s7, ff, a2, c2, a5, c5, a6, c6, e0, e1, e2, e3, e4, e5, e6, e7, _⟩ := hmsg k hlt
  have e0 := cell_ext (Nat.le_refl _) hb2 e0
  have e1 := cell_ext (Nat.le_refl _) hb2 e1
  have e2 := cell_ext (Nat.le_refl _) hb2 e2
  have e3 := cell_ext (Nat.le_refl _) hb2 e3
  have e4 := cell_ext (Nat.le_refl _) hb2 e4
  have e5 := cell_ext (Nat.le_refl _) hb2 e5
  have e6 := cell_ext (Nat.le_refl _) hb2 e6
  have e7 := cell_ext (Nat.le_refl _) hb2 e7
  clear hmsg
  have C := isAsst18 (M k).role s1 (M k).tcid s7 ff a2 a5 a6 (M k).nc (M k).nt (M k).np c2 c5 c6 w2
  go_wp2_with fail
  refine C.mono ?_; clear C
  rintro e w3 ⟨rfl, hb3'⟩
  have hb3 := hb2.trans (hb3'.mono hb2.size)
  clear hb2 hb3' e0 e1 e2 e3 e4 e5 e6 e7
  cases has : asstB (M k).role
  · go_wp2
    go_ret
    exact ⟨rfl, hb3⟩
  have HSel : Hid ((histF M n).filter (fun f => f.asked == (k : Int)) = blockF M n k) := reply_sel M n k hlt has
  have HStr : Hid (∀ f ∈ histF M n, f.kind = 0 ∨ f.asked = -1 → f.at_ ≤ k ∨ (k : Int) + toolRun M n (k + 1) < f.at_) := fun f hf hs => reply_stray M n k hlt has f hf hs
  clear has
  go_wp2_with fail
  have C := toMsgs13 _ n c M w3 hn' HB.out (HM.out.1.ext (Nat.le_refl _) hb3)
  refine C.mono ?_; clear C
  rintro e w4 ⟨a', rfl, hb4', hms⟩
  have hb4 := hb3.trans (hb4'.mono hb3.size)
  clear hb4' hb3
  go_wp2_with fail
  have C := zzresult24 a' n n M k w4 hn' (HB.out k hlt).1 hlt hms
  refine C.mono ?_; clear C
  rintro e w5 ⟨v5, rfl, hb5', hF5⟩
  have hb5 := hb4.trans (hb5'.mono hb4.size)
  have hms5 := hms.ext (Nat.le_refl _) hb5'
  have hl := histF_len M n hn' (fun i hi => (HB.out i hi).1)
  have hlb : (blockF M n k).length ≤ 1099512676352 := by
    rw [← HSel.out]; exact Nat.le_trans (List.length_filter_le _ _) hl
  have htr := toolRun_le M n (k + 1)
  clear hb5' hb4 hms
  go_wp2_with fail
  have C := from11 w4.heap.size v5 (blockF M n k) w5 hF5 (by omega)
  refine C.mono ?_; clear C
  rintro e w6 ⟨r1, rfl, hb6', hz6⟩
  have hb6 := hb5.trans (hb6'.mono hb5.size)
  have hms6 := hms5.ext (Nat.le_refl _) hb6'
  clear hb6' hb5 hms5 hF5
  go_wp2_with fail
  have C := zzhistory12 a' n n M w6 hn' (fun i hi => (HB.out i hi).1) hms6
  refine C.mono ?_; clear C
  rintro e w7 ⟨v7, rfl, hb7', hF7⟩
  have hb7 := hb6.trans (hb7'.mono hb6.size)
  have hz7 := hz6.ext (Nat.le_refl _) hb7'
  clear hb7' hb6 hms6 hz6
  go_wp2_with fail
  have C := from11 w6.heap.size v7 (histF M n) w7 hF7 (by omega)
  refine C.mono ?_; clear C
  rintro e w8 ⟨r2, rfl, hb8', hy8⟩
  have hb8 := hb7.trans (hb8'.mono hb7.size)
  have hz8 := hz7.ext (Nat.le_refl _) hb8'
  clear hb8' hb7 hz7 hF7
  obtain ⟨a8, c8, rfl, q8⟩ := hy8.read
  have HQ : Hid (∀ i, i < (histF M n).length → ∃ g, a8 = some ⟨g, 0, none⟩ ∧ g < w8.heap.size ∧ w8.cell? ⟨g, i * 4, none⟩ = some (.int .i64 (fget (histF M n) i 0)) ∧
          w8.cell? ⟨g, i * 4 + 1, none⟩ = some (.int .i64 (fget (histF M n) i 1)) ∧ w8.cell? ⟨g, i * 4 + 2, none⟩ = some (.int .i64 (fget (histF M n) i 2)) ∧ w8.cell? ⟨g, i * 4 + 3, none⟩ = some (.int .i64 (fget (histF M n) i 3))) := q8
  have HR : Hid (∀ f ∈ histF M n, 0 ≤ f.at_ ∧ f.at_ ≤ n ∧ -1 ≤ f.asked ∧ f.asked < n) := fun f hf => histF_range M n f hf
  clear q8 hy8 HB HM
  generalize histF M n = A at *
  generalize blockF M n k = Bk at *
  generalize toolRun M n (k + 1) = T at *
  go_wp2_with fail
  go_loopg [10, 11] A.length (fun gk v t wr => ∃ i : Nat, i ≤ A.length ∧ A.length ≤ i + gk ∧ t = .int .i64 i ∧ Below w8.heap.size w8 wr ∧ ZFlts wr w8.heap.size v (selK A k i))
  case atStart => exact ⟨0, Nat.zero_le _, by omega, rfl, Below.refl _ _, ZFlts.nil _ _⟩
  case round =>
    obtain ⟨i, hi, hgk, rfl, hb, hF⟩ := hrel
    have hz := hb.size
    by_cases hli : i < A.length
    · as_aux_lemma =>
        obtain ⟨g1, rfl, hg1, p0, p1, p2, p3⟩ := HQ.out i hli
        have p0 := cell_ext (Nat.le_refl _) hb p0
        have p1 := cell_ext (Nat.le_refl _) hb p1
        have p2 := cell_ext (Nat.le_refl _) hb p2
        have p3 := cell_ext (Nat.le_refl _) hb p3
        have hsl := selK_len A k i
        by_cases hf2 : fget A i 2 = k
        · have HS : Hid (selK A k (i + 1) = selK A k i ++ [fat A i]) := selK_yes A k i hli hf2
          have hf2b : (fget A i 2 == (k : Int)) = true := by simpa using hf2
          have hff : Hid (fget A i 2 = k) := hf2
          clear hf2
          go_wp2_with (at_builtin; refine wpList_append_zflt wr rfl _ _ rfl w8.heap.size u10 (selK A k i) rfl hF (fat A i) rfl (by omega) hz ?_; intro g cap w9 hF9 hg9 hgg)
          go_roundg (A.length - (i + 1))
          case measure => omega
          case rel => exact ⟨i + 1, by omega, by omega, by go_num, (hb.alloc hz _).grown hg9 (by simp; omega) (fun k hk => (hF.lt k hk).1), by rw [HS.out]; simpa using hF9⟩
        · have HS : Hid (selK A k (i + 1) = selK A k i) := selK_no A k i hli hf2
          have hf2b : (fget A i 2 == (k : Int)) = false := by simpa using hf2
          go_wp2
          go_roundg (A.length - (i + 1))
          case measure => omega
          case rel => exact ⟨i + 1, by omega, by omega, by go_num, hb, by rw [HS.out]; exact hF⟩
    · have hd : decide ((i : Int) < (A.length : Int)) = false := by simp; omega
      have hsel : selK A k i = Bk := by
        unfold selK
        rw [List.take_of_length_le (by omega)]
        exact HSel.out
      rw [hsel] at hF
      have hz9 := hz8.ext (Nat.le_refl _) hb
      have hy9 := hF.zfs
      have hb9 := hb8.trans (hb.mono hb8.size)
      clear hsel hF hz8
      go_wp2_with fail
      have C := same15 Bk _ _ _ _ wr (by omega) hz9 hy9
      refine C.mono ?_; clear C
      rintro e w10 ⟨rfl, hb10⟩
      have hb11 := hb9.trans (hb10.mono hb9.size)
      have hbq := hb.trans (hb10.mono hb.size)
      clear hz9 hy9 hb10 hb
      go_wp2_with fail
      go_loopg [12, 13] A.length (fun gk t v wz => ∃ i : Nat, i ≤ A.length ∧ A.length ≤ i + gk ∧ t = .int .i64 i ∧ wz = w10)
      case atStart => exact ⟨0, Nat.zero_le _, by omega, rfl, rfl⟩
      case round =>
        obtain ⟨j, hj, hgj, rfl, rfl⟩ := hrel
        by_cases hlj : j < A.length
        · as_aux_lemma =>
            obtain ⟨g1, rfl, hg1, p0, p1, p2, p3⟩ := HQ.out j hlj
            have p0 := cell_ext (Nat.le_refl _) hbq p0
            have p1 := cell_ext (Nat.le_refl _) hbq p1
            have p2 := cell_ext (Nat.le_refl _) hbq p2
            have p3 := cell_ext (Nat.le_refl _) hbq p3
            have hstr : fget A j 0 = 0 ∨ fget A j 2 = -1 → fget A j 1 ≤ k ∨ (k : Int) + T < fget A j 1 := HStr.out (fat A j) (fat_mem A j hlj)
            generalize fget A j 0 = f0 at *
            generalize fget A j 1 = f1 at *
            generalize fget A j 2 = f2 at *
            by_cases h1 : f1 ≤ k
            · have h1b : decide ((k : Int) < f1) = false := by simp; omega
              by_cases h0 : f0 = 0
              · subst h0
                go_wp2
                go_roundg (A.length - (j + 1))
                case measure => omega
                case rel => exact ⟨j + 1, by omega, by omega, by go_num, rfl⟩
              · have h0b : (f0 == 0) = false := by simpa using h0
                by_cases h2 : f2 = -1
                · subst h2
                  go_wp2
                  go_roundg (A.length - (j + 1))
                  case measure => omega
                  case rel => exact ⟨j + 1, by omega, by omega, by go_num, rfl⟩
                · have h2b : (f2 == -1) = false := by simpa using h2
                  go_wp2
                  go_roundg (A.length - (j + 1))
                  case measure => omega
                  case rel => exact ⟨j + 1, by omega, by omega, by go_num, rfl⟩
            · have h1b : decide ((k : Int) < f1) = true := by simp; omega
              by_cases h0 : f0 = 0
              · subst h0
                have h3 : (k : Int) + T < f1 := by omega
                clear hstr
                go_wp2
                go_roundg (A.length - (j + 1))
                case measure => omega
                case rel => exact ⟨j + 1, by omega, by omega, by go_num, rfl⟩
              · have h0b : (f0 == 0) = false := by simpa using h0
                by_cases h2 : f2 = -1
                · subst h2
                  have h3 : (k : Int) + T < f1 := by omega
                  clear hstr
                  go_wp2
                  go_roundg (A.length - (j + 1))
                  case measure => omega
                  case rel => exact ⟨j + 1, by omega, by omega, by go_num, rfl⟩
                · have h2b : (f2 == -1) = false := by simpa using h2
                  go_wp2
                  go_roundg (A.length - (j + 1))
                  case measure => omega
                  case rel => exact ⟨j + 1, by omega, by omega, by go_num, rfl⟩
        · have hd2 : decide ((j : Int) < (A.length : Int)) = false := by simp; omega
          go_wp2
          go_ret
          exact ⟨rfl, hb11⟩

end Go.Proofs.Qxb6601521a
