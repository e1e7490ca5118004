/-
  The walk of FnHistoryFaultsPointAtRealPlacesInOrder.
-/
import Derived.Test.Qxb6601521aHistM
import Derived.Test.Qxb6601521aZb16
import Derived.Test.Qxb6601521aHistF
import Derived.Test.Qxb6601521aHistG
namespace Go.Proofs.Qxb6601521a
open Go.RowKit Go.Deep

/-- the i-th fault -/
def fat (A : List Flt) (i : Nat) : Flt := ⟨fget A i 0, fget A i 1, fget A i 2, fget A i 3⟩
theorem fat_get (A : List Flt) (i : Nat) (hi : i < A.length) : fat A i = A[i] := by
  have e1 : A.getD i Flt.zero = A[i] := by simp [List.getD_eq_getElem?_getD, hi]
  unfold fat fget
  rw [e1]
  rfl
theorem fat_mem (A : List Flt) (i : Nat) (hi : i < A.length) : fat A i ∈ A := by rw [fat_get A i hi]; exact List.getElem_mem hi
theorem take_step (A : List Flt) (i : Nat) (hi : i < A.length) : A.take (i + 1) = A.take i ++ [fat A i] := by
  rw [List.take_add_one, List.getElem?_eq_getElem hi, fat_get A i hi]; rfl
theorem step_placed (A : List Flt) (i : Nat) (hi : i < A.length) (hk : fget A i 0 ≠ 3) : placedN (A.take (i + 1)) = placedN (A.take i) + 1 ∧ missN (A.take (i + 1)) = missN (A.take i) ∧ lastP (A.take (i + 1)) = fget A i 1 := by
  have e : (fat A i).kind ≠ 3 := hk
  rw [take_step A i hi, (placed_app _ _).1, (placed_app _ _).2, lastP_snoc, if_neg e]
  refine ⟨?_, ?_, rfl⟩
  · simp [placedN, e]
  · simp [missN, e]
theorem step_miss (A : List Flt) (i : Nat) (hi : i < A.length) (hk : fget A i 0 = 3) : placedN (A.take (i + 1)) = placedN (A.take i) ∧ missN (A.take (i + 1)) = missN (A.take i) + 1 ∧ lastP (A.take (i + 1)) = lastP (A.take i) := by
  have e : (fat A i).kind = 3 := hk
  rw [take_step A i hi, (placed_app _ _).1, (placed_app _ _).2, lastP_snoc, if_pos e]
  refine ⟨?_, ?_, rfl⟩
  · simp [placedN, e]
  · simp [missN, e]
theorem placedN_le (A : List Flt) (i : Nat) : placedN (A.take i) ≤ A.length ∧ missN (A.take i) ≤ A.length := by
  have h : (A.take i).length ≤ A.length := by rw [List.length_take]; omega
  exact ⟨Nat.le_trans List.countP_le_length h, Nat.le_trans List.countP_le_length h⟩
theorem ord_fget (A : List Flt) (h : A.Pairwise Ord) (i : Nat) (hi : i < A.length) (h0 : ∀ f ∈ A, 0 ≤ f.at_) :
    (0 < i → fget A (i - 1) 1 ≤ fget A i 1) ∧ (fget A i 0 ≠ 3 → lastP (A.take i) < fget A i 1) := by
  obtain ⟨h1, h2⟩ := ord_at h i hi h0
  have e : A[i] = fat A i := (fat_get A i hi).symm
  rw [e] at h1 h2
  refine ⟨fun hp => ?_, h2⟩
  have := h1 hp
  rw [← fat_get A (i - 1) (by omega)] at this
  exact this

theorem HMsgs.got {w : World} {b o n : Nat} {M : Nat → Msg} (h : HMsgs w (some ⟨b, o, none⟩) n M) (i : Nat) (hi : i < n) : HMsgAt w b (o + i * 8) (M i) := by
  obtain ⟨b', o', eb, hm⟩ := h.at i hi
  injection eb with eb
  injection eb with eb1 eb2
  subst eb1 eb2
  exact hm

/-- the four cells of a local fault -/
def FC (w : World) (X : Nat) (f0 f1 f2 f3 : Int) : Prop := w.cell? ⟨X, 0, none⟩ = some (.int .i64 f0) ∧ w.cell? ⟨X, 1, none⟩ = some (.int .i64 f1) ∧ w.cell? ⟨X, 2, none⟩ = some (.int .i64 f2) ∧ w.cell? ⟨X, 3, none⟩ = some (.int .i64 f3)
theorem FC.ext {w w' : World} {X : Nat} {f0 f1 f2 f3 : Int} (h : FC w X f0 f1 f2 f3) (hb : Below w.heap.size w w') : FC w' X f0 f1 f2 f3 :=
  ⟨cell_ext (Nat.le_refl _) hb h.1, cell_ext (Nat.le_refl _) hb h.2.1, cell_ext (Nat.le_refl _) hb h.2.2.1, cell_ext (Nat.le_refl _) hb h.2.2.2⟩
theorem FC.alloc (w : World) (f0 f1 f2 f3 : Int) : FC (w.alloc (.cells #[.int .i64 f0, .int .i64 f1, .int .i64 f2, .int .i64 f3] 40)) w.heap.size f0 f1 f2 f3 := ⟨by simp, by simp, by simp, by simp⟩

set_option maxRecDepth 100000 in
set_option maxHeartbeats 4000000 in
theorem walk4 (a : Option Addr) (n c : Nat) (M : Nat → Msg) (W : World) (hn : n ≤ maxLen) (hMx : ∀ i, i < n → (M i).nc ≤ maxLen ∧ (M i).nt ≤ maxLen ∧ (M i).np ≤ maxLen) (hM : HMsgs W a n M) :
    Calls Try.prog 4 #[.slice a n c] W fun e w' => e = .returned (.bool true) ∧ Below W.heap.size W w' := by
  unfold maxLen at hn hMx
  have HM : Hid (HMsgs W a n M ∧ ∀ i, i < n → (M i).nc ≤ 9223372036854775807 ∧ (M i).nt ≤ 9223372036854775807 ∧ (M i).np ≤ 9223372036854775807) := ⟨hM, fun i hi => by have := hMx i hi; omega⟩
  clear hM hMx
  have C := bytes16 a n c M W HM.out.1
  go_enter Try.func4, Try.ntmps4
  go_wp2_with fail
  refine C.mono ?_; clear C
  rintro e w1 ⟨⟨b, rfl⟩, rfl⟩
  cases b
  · go_wp2
    go_ret
    exact ⟨rfl, Below.refl _ _⟩
  go_wp2_with fail
  have C := msgsBytes10 a n c M w1 (by omega) HM.out.1 HM.out.2
  refine C.mono ?_; clear C
  rintro e w2 ⟨t, rfl, hb2, ht⟩
  by_cases hcap : 1048576 < t
  · go_wp2
    go_ret
    exact ⟨rfl, hb2⟩
  obtain ⟨hn', hbnd⟩ := ht (by omega)
  have HB : Hid (∀ i, i < n → (M i).nc ≤ 1048576 ∧ (M i).nt ≤ 1048576 ∧ (M i).np ≤ 1048576) := hbnd
  clear hbnd ht
  go_wp2_with fail
  have C := toMsgs13 a n c M w2 hn' HB.out (HM.out.1.ext (Nat.le_refl _) hb2)
  refine C.mono ?_; clear C
  rintro e w4 ⟨a', rfl, hb4', hms⟩
  have hb4 := hb2.trans (hb4'.mono hb2.size)
  clear hb4' hb2
  go_wp2_with fail
  have C := zzhistory12 a' n n M w4 hn' (fun i hi => (HB.out i hi).1) hms
  refine C.mono ?_; clear C
  rintro e w5 ⟨v5, rfl, hb5', hF5⟩
  have hb5 := hb4.trans (hb5'.mono hb4.size)
  have hl := histF_len M n hn' (fun i hi => (HB.out i hi).1)
  clear hb5' hb4 hms
  go_wp2_with fail
  have C := from11 w4.heap.size v5 (histF M n) w5 hF5 (by omega)
  refine C.mono ?_; clear C
  rintro e w6 ⟨r1, rfl, hb6', hz6⟩
  have hb6 := hb5.trans (hb6'.mono hb5.size)
  clear hb6' hb5 hF5
  obtain ⟨a8, c8, rfl, q8⟩ := hz6.read
  have HQ : Hid (∀ i, i < (histF M n).length → ∃ g, a8 = some ⟨g, 0, none⟩ ∧ g < w6.heap.size ∧ w6.cell? ⟨g, i * 4, none⟩ = some (.int .i64 (fget (histF M n) i 0)) ∧
          w6.cell? ⟨g, i * 4 + 1, none⟩ = some (.int .i64 (fget (histF M n) i 1)) ∧ w6.cell? ⟨g, i * 4 + 2, none⟩ = some (.int .i64 (fget (histF M n) i 2)) ∧ w6.cell? ⟨g, i * 4 + 3, none⟩ = some (.int .i64 (fget (histF M n) i 3))) := q8
  have HO : Hid (∀ i, i < (histF M n).length → Sort3 M n (fat (histF M n) i) ∧ (0 < i → fget (histF M n) (i - 1) 1 ≤ fget (histF M n) i 1) ∧ (fget (histF M n) i 0 ≠ 3 → lastP ((histF M n).take i) < fget (histF M n) i 1)) := fun i hi =>
    ⟨histF_sort M n _ (fat_mem _ i hi), ord_fget _ (histF_ord M n) i hi fun f hf => (histF_range M n f hf).1⟩
  have HCt : Hid (placedN (histF M n) ≤ toolsUp M n ∧ missN (histF M n) ≤ callsUp M n) := histF_counts M n
  clear q8 hz6
  generalize histF M n = A at *
  go_wp2_with fail
  go_loopg [5, 6, 7] n (fun gk u v t wr => ∃ i : Nat, i ≤ n ∧ n ≤ i + gk ∧ t = .int .i64 i ∧ u = .int .i64 (toolsUp M i) ∧ v = .int .i64 (callsUp M i) ∧ Below w6.heap.size w6 wr)
  case atStart => exact ⟨0, Nat.zero_le _, by omega, rfl, rfl, rfl, Below.refl _ _⟩
  case round =>
    obtain ⟨i, hi, hgk, rfl, rfl, rfl, hb⟩ := hrel
    have htu := toolsUp_le M i
    have hcu := callsUp_le M n (fun i hi => (HB.out i hi).1) i hi
    by_cases hli : i < n
    · as_aux_lemma =>
        have hb7 := hb6.trans (hb.mono hb6.size)
        obtain ⟨b, o, rfl, hm⟩ := (HM.out.1.ext (Nat.le_refl _) hb7).at i hli
        obtain ⟨s1, s7, ff, a2, c2, a5, c5, a6, c6, e0, e1, e2, e3, e4, e5, e6, e7, _⟩ := hm
        have hnc := (HB.out i hli).1
        go_wp2_with fail
        have C := isTool17 (M i).role s1 (M i).tcid s7 ff a2 a5 a6 (M i).nc (M i).nt (M i).np c2 c5 c6 wr
        refine C.mono ?_; clear C
        rintro e w7 ⟨rfl, hb8⟩
        have hb9 := hb.trans (hb8.mono hb.size)
        have e2 := cell_ext (Nat.le_refl _) hb8 e2
        cases ht : toolB (M i).role
        · have HT : Hid (toolsUp M (i + 1) = toolsUp M i) := by show _ = _; rw [toolsUp, ht]; rfl
          clear ht e0 e1 e3 e4 e5 e6 e7
          go_wp2
          go_roundg (n - (i + 1))
          case measure => omega
          case rel => exact ⟨i + 1, by omega, by omega, by go_num, by rw [HT.out], by go_num, hb9⟩
        · have HT : Hid (toolsUp M (i + 1) = toolsUp M i + 1) := by show _ = _; rw [toolsUp, ht]; rfl
          clear ht e0 e1 e3 e4 e5 e6 e7
          go_wp2
          go_roundg (n - (i + 1))
          case measure => omega
          case rel => exact ⟨i + 1, by omega, by omega, by go_num, by rw [HT.out]; rfl, by go_num, hb9⟩
    · have hin : i = n := by omega
      subst hin
      have hd : decide ((i : Int) < (i : Int)) = false := by simp
      have hb9 := hb6.trans (hb.mono hb6.size)
      go_wp2_with fail
      go_loopg [8, 9, 10, 11] A.length (fun gk u v l t wz => ∃ j : Nat, j ≤ A.length ∧ A.length ≤ j + gk ∧ t = .int .i64 j ∧ u = .int .i64 (placedN (A.take j)) ∧ v = .int .i64 (missN (A.take j)) ∧ l = .int .i64 (lastP (A.take j)) ∧ Below wr.heap.size wr wz)
      case atStart => exact ⟨0, Nat.zero_le _, by omega, rfl, rfl, rfl, rfl, Below.refl _ _⟩
      case round =>
        obtain ⟨j, hj, hgj, rfl, rfl, rfl, rfl, hbz⟩ := hrel
        obtain ⟨hpl, hml⟩ := placedN_le A j
        have hb10 := hb.trans (hbz.mono hb.size)
        have hb11 := hb9.trans (hbz.mono hb9.size)
        by_cases hlj : j < A.length
        · obtain ⟨hso, hpr, hla⟩ := HO.out j hlj
          have HLA : Hid (fget A j 0 ≠ 3 → lastP (A.take j) < fget A j 1) := hla
          have HSO : Hid (Sort3 M i (fat A j)) := hso
          clear hla hso
          obtain ⟨g1, rfl, hg1, p0, p1, p2, p3⟩ := HQ.out j hlj
          have p0 := cell_ext (Nat.le_refl _) hb10 p0
          have p1 := cell_ext (Nat.le_refl _) hb10 p1
          have p2 := cell_ext (Nat.le_refl _) hb10 p2
          have p3 := cell_ext (Nat.le_refl _) hb10 p3
          go_upto_region 22 with (fail)
          have hal := (Below.refl wr.heap.size wr).alloc (Nat.le_refl _) (.cells #[.int .i64 (fget A j 0), .int .i64 (fget A j 1), .int .i64 (fget A j 2), .int .i64 (fget A j 3)] 40)
          have hfc := FC.alloc wr (fget A j 0) (fget A j 1) (fget A j 2) (fget A j 3)
          have hbz2 := hbz.trans (hal.mono hbz.size)
          have hb12 := hb10.trans (hal.mono hb10.size)
          have hb13 := hb11.trans (hal.mono hb11.size)
          generalize wr.alloc (.cells #[.int .i64 (fget A j 0), .int .i64 (fget A j 1), .int .i64 (fget A j 2), .int .i64 (fget A j 3)] 40) = wa at *
          generalize wr.heap.size = X at *
          go_cut [70] from 48 to 269 (fun v wc => v = .bool false ∧ Below wa.heap.size wa wc)
          case first =>
            as_aux_lemma =>
              obtain ⟨l0, l1, l2, l3⟩ := hfc
              by_cases hj0 : 0 < j
              · obtain ⟨j', rfl⟩ : ∃ j', j = j' + 1 := ⟨j - 1, by omega⟩
                obtain ⟨g1', eg, _, _, r1, _, _⟩ := HQ.out j' (by omega)
                obtain rfl : g1' = g1 := by
                  injection eg with eg
                  injection eg with eg
                  exact eg.symm
                have r1 := cell_ext (Nat.le_refl _) hb12 r1
                have hle : fget A j' 1 ≤ fget A (j' + 1) 1 := by have := hpr hj0; rwa [Nat.add_sub_cancel] at this
                have hd3 : decide ((0 : Int) < ((j' + 1 : Nat) : Int)) = true := by simp
                have hd4 : decide (fget A (j' + 1) 1 < fget A j' 1) = false := by simp; omega
                go_quiet (fail)
                go_wp2
                go_meet
                case rel => exact ⟨rfl, below_drewN (Below.refl _ _) _⟩
              · obtain rfl : j = 0 := by omega
                have hd3 : decide ((0 : Int) < ((0 : Nat) : Int)) = false := by simp
                go_quiet (fail)
                go_wp2
                go_meet
                case rel => exact ⟨rfl, below_drewN (Below.refl _ _) _⟩
          case rest =>
            obtain ⟨rfl, hbc⟩ := hcut
            have hfc := hfc.ext hbc
            have hbz3 := hbz2.trans (hbc.mono hbz2.size)
            have hb14 := hb13.trans (hbc.mono hb13.size)
            clear hbz2 hb12 hb13 hbc hal p0 p1 p2 p3 hpr hb10 hb11
            rcases HSO.out with ⟨p, hf, _, hpn, hpt, hnk⟩ | ⟨A0, hA0, has, hsort⟩
            · as_aux_lemma =>
                unfold fat at hf
                injection hf with q0 q1 q2 q3
                have HT : Hid (placedN (A.take (j + 1)) = placedN (A.take j) + 1 ∧ missN (A.take (j + 1)) = missN (A.take j) ∧ lastP (A.take (j + 1)) = (p : Int)) := by
                  have := step_placed A j hlj (by omega)
                  rw [q1] at this
                  exact this
                have hla := HLA.out (by omega)
                rw [q0, q1, q2, q3] at hfc
                rw [q1] at hla
                clear q0 q1 q2 q3 HLA HSO
                have HNK : Hid (NoAsk M p) := hnk
                clear hnk
                obtain ⟨l0, l1, l2, l3⟩ := hfc
                have hd5 : decide (i ≤ p) = false := by simp; omega
                have hd6 : decide ((p : Int) < 0) = false := by simp
                obtain ⟨b, o, rfl, hm⟩ := (HM.out.1.ext (Nat.le_refl _) hb14).at p hpn
                obtain ⟨s1, s7, ff, a2, c2, a5, c5, a6, c6, e0, e1, e2, e3, e4, e5, e6, e7, _⟩ := hm
                go_wp2_with fail
                have C := isTool17 (M p).role s1 (M p).tcid s7 ff a2 a5 a6 (M p).nc (M p).nt (M p).np c2 c5 c6 wc
                refine C.mono ?_; clear C
                rintro e w7 ⟨rfl, hb8⟩
                rw [hpt]
                have hfc : FC w7 X 0 p (-1) 0 := FC.ext (w := wc) ⟨l0, l1, l2, l3⟩ hb8
                have hbz4 := hbz3.trans (hb8.mono hbz3.size)
                have hb15 := hb14.trans (hb8.mono hb14.size)
                clear e0 e1 e2 e3 e4 e5 e6 e7 l0 l1 l2 l3 hbz3 hb14 hb8
                obtain ⟨l0, l1, l2, l3⟩ := hfc
                go_wp2_with fail
                go_loopg [13] p (fun gk t wq => ∃ (q : Nat) (z : Int), q ≤ p ∧ q ≤ gk ∧ t = .int .i64 z ∧ z = (q : Int) - 1 ∧ Hid (∀ t, q ≤ t → t < p → toolB (M t).role = true) ∧ Below w7.heap.size w7 wq)
                case atStart => exact ⟨p, _, Nat.le_refl _, Nat.le_refl _, rfl, rfl, (fun t h1 h2 => by omega), Below.refl _ _⟩
                case round =>
                  obtain ⟨q, z, hqp, hgq, rfl, hzq, hall, hbq⟩ := hrel
                  have hb16 := hb15.trans (hbq.mono hb15.size)
                  have hbz5 := hbz4.trans (hbq.mono hbz4.size)
                  by_cases hq0 : q = 0
                  · subst hq0
                    obtain rfl : z = -1 := by omega
                    clear hzq
                    obtain ⟨l0, l1, l2, l3⟩ := FC.ext (w := w7) ⟨l0, l1, l2, l3⟩ hbq
                    go_wp2
                    go_roundg (A.length - (j + 1))
                    case measure => omega
                    case rel => exact ⟨j + 1, by omega, by omega, by go_num, by rw [HT.out.1]; rfl, by rw [HT.out.2.1], by rw [HT.out.2.2], hbz5⟩
                  · obtain ⟨q', rfl⟩ : ∃ q', q = q' + 1 := ⟨q - 1, by omega⟩
                    obtain rfl : z = (q' : Int) := by omega
                    clear hzq
                    obtain ⟨s1, s7, ff, a2, c2, a5, c5, a6, c6, e0, e1, e2, e3, e4, e5, e6, e7, _⟩ : HMsgAt wr b (o + q' * 8) (M q') := by
                      obtain ⟨b', o', eb, hm⟩ := (HM.out.1.ext (Nat.le_refl _) hb16).at q' (by omega)
                      injection eb with eb
                      injection eb with eb1 eb2
                      subst eb1 eb2
                      exact hm
                    go_wp2_with fail
                    have C := isTool17 (M q').role s1 (M q').tcid s7 ff a2 a5 a6 (M q').nc (M q').nt (M q').np c2 c5 c6 wr
                    refine C.mono ?_; clear C
                    rintro e w8 ⟨rfl, hb17⟩
                    have hbq2 := hbq.trans (hb17.mono hbq.size)
                    cases htq : toolB (M q').role
                    · have hna := HNK.out q' (by omega) fun t h1 h2 => hall.out t (by omega) h2
                      have e0 := cell_ext (Nat.le_refl _) hb17 e0
                      have e1 := cell_ext (Nat.le_refl _) hb17 e1
                      have e2 := cell_ext (Nat.le_refl _) hb17 e2
                      have e3 := cell_ext (Nat.le_refl _) hb17 e3
                      have e4 := cell_ext (Nat.le_refl _) hb17 e4
                      have e5 := cell_ext (Nat.le_refl _) hb17 e5
                      have e6 := cell_ext (Nat.le_refl _) hb17 e6
                      have e7 := cell_ext (Nat.le_refl _) hb17 e7
                      go_wp2_with fail
                      have C := isAsst18 (M q').role s1 (M q').tcid s7 ff a2 a5 a6 (M q').nc (M q').nt (M q').np c2 c5 c6 w8
                      refine C.mono ?_; clear C
                      rintro e w9 ⟨rfl, hb18⟩
                      rw [hna]
                      have hbq3 := hbq2.trans (hb18.mono hbq2.size)
                      have hbz6 := hbz4.trans (hbq3.mono hbz4.size)
                      obtain ⟨l0, l1, l2, l3⟩ := FC.ext (w := w7) ⟨l0, l1, l2, l3⟩ hbq3
                      clear e0 e1 e2 e3 e4 e5 e6 e7 hna htq
                      go_wp2
                      go_roundg (A.length - (j + 1))
                      case measure => omega
                      case rel => exact ⟨j + 1, by omega, by omega, by go_num, by rw [HT.out.1]; rfl, by rw [HT.out.2.1], by rw [HT.out.2.2], hbz6⟩
                    · have HTq : Hid (toolB (M q').role = true) := htq
                      clear htq
                      go_wp2
                      go_roundg q'
                      case measure => omega
                      case rel => exact ⟨q', _, by omega, Nat.le_refl _, rfl, rfl, (fun t h1 h2 => by
                            by_cases e : t = q'
                            · subst e; exact HTq.out
                            · exact hall.out t (by omega) h2), hbq2⟩
            · have htr := toolRun_le M i (A0 + 1)
              have HTS : Hid ((∀ t, t < toolRun M i (A0 + 1) → toolB (M (A0 + 1 + t)).role = true) ∧ (A0 + 1 + toolRun M i (A0 + 1) < i → toolB (M (A0 + 1 + toolRun M i (A0 + 1))).role = false)) := toolRun_spec M i (A0 + 1)
              rcases hsort with ⟨y, k1, k2, k3, k4, k5, k6⟩ | ⟨y, k1, k2, k3, k4, k5⟩
              · as_aux_lemma =>
                  have q1 : fget A j 1 = (y : Int) := k1
                  have q2 : fget A j 2 = (A0 : Int) := k4
                  have q3 : fget A j 3 = 0 := k5
                  have q0 : fget A j 0 = if hasB (M A0).cid (M A0).nc (M y).tcid then 2 else 1 := k6
                  clear k1 k4 k5 k6
                  rw [has_cnt] at q0
                  have hne3 : fget A j 0 ≠ 3 := by rw [q0]; split <;> decide
                  have HT : Hid (placedN (A.take (j + 1)) = placedN (A.take j) + 1 ∧ missN (A.take (j + 1)) = missN (A.take j) ∧ lastP (A.take (j + 1)) = (y : Int)) := by
                    have := step_placed A j hlj hne3
                    rw [q1] at this
                    exact this
                  have hla := HLA.out hne3
                  rw [q1] at hla
                  rw [q1, q2, q3] at hfc
                  generalize fget A j 0 = f0 at *
                  clear q1 q2 q3 HLA HSO hne3
                  have hd5 : decide (y ≤ A0) = false := by simp; omega
                  have hd6 : decide ((A0 : Int) < 0) = false := by simp
                  have hd7 : decide (i ≤ y) = false := by simp; omega
                  obtain ⟨l0, l1, l2, l3⟩ := hfc
                  by_cases hc : 0 < cntC (M A0).cid (M y).tcid (M A0).nc
                  · rw [if_pos (by simpa using hc)] at q0
                    subst q0
                    have HC0 : Hid (0 < cntC (M A0).cid (M y).tcid (M A0).nc) := hc
                    clear hc
                    obtain ⟨b, o, rfl, _⟩ := HM.out.1.at A0 (by omega)
                    obtain ⟨s1, s7, ff, a2, c2, a5, c5, a6, c6, e0, e1, e2, e3, e4, e5, e6, e7, _⟩ := (HM.out.1.ext (Nat.le_refl _) hb14).got A0 (by omega)
                    go_wp2_with fail
                    have C := isAsst18 (M A0).role s1 (M A0).tcid s7 ff a2 a5 a6 (M A0).nc (M A0).nt (M A0).np c2 c5 c6 wc
                    refine C.mono ?_; clear C
                    rintro e w7 ⟨rfl, hb8⟩
                    rw [has]
                    have hfc : FC w7 X 2 y A0 0 := FC.ext (w := wc) ⟨l0, l1, l2, l3⟩ hb8
                    have hbz4 := hbz3.trans (hb8.mono hbz3.size)
                    have hb15 := hb14.trans (hb8.mono hb14.size)
                    clear e0 e1 e2 e3 e4 e5 e6 e7 l0 l1 l2 l3 hbz3 hb14 hb8
                    obtain ⟨l0, l1, l2, l3⟩ := hfc
                    go_wp2_with fail
                    have C := allTools19 (some ⟨b, o, none⟩) i c M ((A0 : Int) + 1) ((y : Int) + 1) (A0 + 1) (y - A0) w7 (by omega) (by omega) hn' (HM.out.1.ext (Nat.le_refl _) hb15) (by omega) (fun t ht => HTS.out.1 t (by omega))
                    refine C.mono ?_; clear C
                    rintro e w8 ⟨rfl, hb16'⟩
                    have hfc : FC w8 X 2 y A0 0 := FC.ext (w := w7) ⟨l0, l1, l2, l3⟩ hb16'
                    have hbz5 := hbz4.trans (hb16'.mono hbz4.size)
                    have hb16 := hb15.trans (hb16'.mono hb15.size)
                    clear l0 l1 l2 l3 hbz4 hb15 hb16'
                    obtain ⟨l0, l1, l2, l3⟩ := hfc
                    obtain ⟨s1, s7, ff, a2, c2, a5, c5, a6, c6, _, _, e2, _, _, _, _, _, hcs, _⟩ := (HM.out.1.ext (Nat.le_refl _) hb16).got A0 (by omega)
                    obtain ⟨_, _, _, _, _, _, _, _, _, _, _, _, d3, _⟩ := (HM.out.1.ext (Nat.le_refl _) hb16).got y (by omega)
                    have C := cnt20 a2 (M A0).nc c2 (M A0).cid (M A0).nc (M y).tcid w8 (HB.out A0 (by omega)).1 (Nat.le_refl _) hcs
                    clear hcs
                    have hcl := cntC_le (M A0).cid (M y).tcid (M A0).nc
                    have hnc := (HB.out A0 (by omega)).1
                    go_wp2_with fail
                    refine C.mono ?_; clear C
                    rintro e w9 ⟨rfl, rfl⟩
                    have hdc : decide (0 < cntC (M A0).cid (M y).tcid (M A0).nc) = true := by
                      have := HC0.out
                      simp; omega
                    go_wp2
                    go_roundg (A.length - (j + 1))
                    case measure => omega
                    case rel => exact ⟨j + 1, by omega, by omega, by go_num, by rw [HT.out.1]; rfl, by rw [HT.out.2.1], by rw [HT.out.2.2], hbz5⟩
                  · rw [if_neg (by simpa using hc)] at q0
                    subst q0
                    have HC0 : Hid (¬ 0 < cntC (M A0).cid (M y).tcid (M A0).nc) := hc
                    clear hc
                    obtain ⟨b, o, rfl, _⟩ := HM.out.1.at A0 (by omega)
                    obtain ⟨s1, s7, ff, a2, c2, a5, c5, a6, c6, e0, e1, e2, e3, e4, e5, e6, e7, _⟩ := (HM.out.1.ext (Nat.le_refl _) hb14).got A0 (by omega)
                    go_wp2_with fail
                    have C := isAsst18 (M A0).role s1 (M A0).tcid s7 ff a2 a5 a6 (M A0).nc (M A0).nt (M A0).np c2 c5 c6 wc
                    refine C.mono ?_; clear C
                    rintro e w7 ⟨rfl, hb8⟩
                    rw [has]
                    have hfc : FC w7 X 1 y A0 0 := FC.ext (w := wc) ⟨l0, l1, l2, l3⟩ hb8
                    have hbz4 := hbz3.trans (hb8.mono hbz3.size)
                    have hb15 := hb14.trans (hb8.mono hb14.size)
                    clear e0 e1 e2 e3 e4 e5 e6 e7 l0 l1 l2 l3 hbz3 hb14 hb8
                    obtain ⟨l0, l1, l2, l3⟩ := hfc
                    go_wp2_with fail
                    have C := allTools19 (some ⟨b, o, none⟩) i c M ((A0 : Int) + 1) ((y : Int) + 1) (A0 + 1) (y - A0) w7 (by omega) (by omega) hn' (HM.out.1.ext (Nat.le_refl _) hb15) (by omega) (fun t ht => HTS.out.1 t (by omega))
                    refine C.mono ?_; clear C
                    rintro e w8 ⟨rfl, hb16'⟩
                    have hfc : FC w8 X 1 y A0 0 := FC.ext (w := w7) ⟨l0, l1, l2, l3⟩ hb16'
                    have hbz5 := hbz4.trans (hb16'.mono hbz4.size)
                    have hb16 := hb15.trans (hb16'.mono hb15.size)
                    clear l0 l1 l2 l3 hbz4 hb15 hb16'
                    obtain ⟨l0, l1, l2, l3⟩ := hfc
                    obtain ⟨s1, s7, ff, a2, c2, a5, c5, a6, c6, _, _, e2, _, _, _, _, _, hcs, _⟩ := (HM.out.1.ext (Nat.le_refl _) hb16).got A0 (by omega)
                    obtain ⟨_, _, _, _, _, _, _, _, _, _, _, _, d3, _⟩ := (HM.out.1.ext (Nat.le_refl _) hb16).got y (by omega)
                    have C := cnt20 a2 (M A0).nc c2 (M A0).cid (M A0).nc (M y).tcid w8 (HB.out A0 (by omega)).1 (Nat.le_refl _) hcs
                    clear hcs
                    have hcl := cntC_le (M A0).cid (M y).tcid (M A0).nc
                    have hnc := (HB.out A0 (by omega)).1
                    go_wp2_with fail
                    refine C.mono ?_; clear C
                    rintro e w9 ⟨rfl, rfl⟩
                    have hdc : decide (0 < cntC (M A0).cid (M y).tcid (M A0).nc) = false := by
                      have := HC0.out
                      simp; omega
                    go_wp2
                    go_roundg (A.length - (j + 1))
                    case measure => omega
                    case rel => exact ⟨j + 1, by omega, by omega, by go_num, by rw [HT.out.1]; rfl, by rw [HT.out.2.1], by rw [HT.out.2.2], hbz5⟩
              · as_aux_lemma =>
                  have q1 : fget A j 1 = ((A0 + 1 + toolRun M i (A0 + 1) : Nat) : Int) := k1
                  have q2 : fget A j 2 = (A0 : Int) := k3
                  have q3 : fget A j 3 = (y : Int) := k4
                  have q0 : fget A j 0 = 3 := k5
                  clear k1 k3 k4 k5
                  have HT : Hid (placedN (A.take (j + 1)) = placedN (A.take j) ∧ missN (A.take (j + 1)) = missN (A.take j) + 1 ∧ lastP (A.take (j + 1)) = lastP (A.take j)) := step_miss A j hlj q0
                  rw [q0, q1, q2, q3] at hfc
                  clear q0 q1 q2 q3 HLA HSO
                  have hrun := HTS.out
                  clear HTS
                  generalize toolRun M i (A0 + 1) = T at *
                  obtain ⟨E, hE⟩ : ∃ E, E = A0 + 1 + T := ⟨_, rfl⟩
                  rw [← hE] at hfc hrun
                  have hEi : E ≤ i := by omega
                  have hAE : A0 < E := by omega
                  have HTS : Hid ((∀ t, t < T → toolB (M (A0 + 1 + t)).role = true) ∧ (E < i → toolB (M E).role = false) ∧ E = A0 + 1 + T) := ⟨hrun.1, hrun.2, hE⟩
                  clear hrun hE
                  have hd5 : decide (E ≤ A0) = false := by simp; omega
                  have hd6 : decide ((A0 : Int) < 0) = false := by simp
                  have hd7 : decide (i < E) = false := by simp; omega
                  obtain ⟨l0, l1, l2, l3⟩ := hfc
                  obtain ⟨b, o, rfl, _⟩ := HM.out.1.at A0 (by omega)
                  obtain ⟨s1, s7, ff, a2, c2, a5, c5, a6, c6, e0, e1, e2, e3, e4, e5, e6, e7, _⟩ := (HM.out.1.ext (Nat.le_refl _) hb14).got A0 (by omega)
                  go_wp2_with fail
                  have C := isAsst18 (M A0).role s1 (M A0).tcid s7 ff a2 a5 a6 (M A0).nc (M A0).nt (M A0).np c2 c5 c6 wc
                  refine C.mono ?_; clear C
                  rintro e w7 ⟨rfl, hb8⟩
                  rw [has]
                  have hfc : FC w7 X 3 E A0 y := FC.ext (w := wc) ⟨l0, l1, l2, l3⟩ hb8
                  have hbz4 := hbz3.trans (hb8.mono hbz3.size)
                  have hb15 := hb14.trans (hb8.mono hb14.size)
                  clear e0 e1 e2 e3 e4 e5 e6 e7 l0 l1 l2 l3 hbz3 hb14 hb8
                  obtain ⟨l0, l1, l2, l3⟩ := hfc
                  go_wp2_with fail
                  have C := allTools19 (some ⟨b, o, none⟩) i c M ((A0 : Int) + 1) (E : Int) (A0 + 1) T w7 (by omega) (by have := HTS.out.2.2; omega) hn' (HM.out.1.ext (Nat.le_refl _) hb15) (by omega) HTS.out.1
                  refine C.mono ?_; clear C
                  rintro e w8 ⟨rfl, hb16'⟩
                  have hfc : FC w8 X 3 E A0 y := FC.ext (w := w7) ⟨l0, l1, l2, l3⟩ hb16'
                  have hbz5 := hbz4.trans (hb16'.mono hbz4.size)
                  have hb16 := hb15.trans (hb16'.mono hb15.size)
                  clear l0 l1 l2 l3 hbz4 hb15 hb16'
                  obtain ⟨l0, l1, l2, l3⟩ := hfc
                  by_cases hEn : E < i
                  · obtain ⟨s1, s7, ff, a2, c2, a5, c5, a6, c6, e0, e1, e2, e3, e4, e5, e6, e7, _⟩ := (HM.out.1.ext (Nat.le_refl _) hb16).got E (by omega)
                    have hte := HTS.out.2.1 hEn
                    go_wp2_with fail
                    have C := isTool17 (M E).role s1 (M E).tcid s7 ff a2 a5 a6 (M E).nc (M E).nt (M E).np c2 c5 c6 w8
                    refine C.mono ?_; clear C
                    rintro e w9 ⟨rfl, hb17'⟩
                    rw [hte]
                    have hbz6 := hbz5.trans (hb17'.mono hbz5.size)
                    have hb17 := hb16.trans (hb17'.mono hb16.size)
                    clear e0 e1 e2 e3 e4 e5 e6 e7
                    obtain ⟨l0, l1, l2, l3⟩ := FC.ext (w := w8) ⟨l0, l1, l2, l3⟩ hb17'
                    obtain ⟨s1, s7, ff, a2, c2, a5, c5, a6, c6, _, _, e2, _⟩ := (HM.out.1.ext (Nat.le_refl _) hb17).got A0 (by omega)
                    have hd9 : decide ((y : Int) < 0) = false := by simp
                    have hd10 : decide ((M A0).nc ≤ y) = false := by simp; omega
                    have hnc := (HB.out A0 (by omega)).1
                    go_wp2
                    go_quiet (fail)
                    go_wp2
                    go_roundg (A.length - (j + 1))
                    case measure => omega
                    case rel => exact ⟨j + 1, by omega, by omega, by go_num, by rw [HT.out.1], by rw [HT.out.2.1]; rfl, by rw [HT.out.2.2], below_drewN hbz6 _⟩
                  · have hd8 : decide (E < i) = false := by simp; omega
                    obtain ⟨s1, s7, ff, a2, c2, a5, c5, a6, c6, _, _, e2, _⟩ := (HM.out.1.ext (Nat.le_refl _) hb16).got A0 (by omega)
                    have hd9 : decide ((y : Int) < 0) = false := by simp
                    have hd10 : decide ((M A0).nc ≤ y) = false := by simp; omega
                    have hnc := (HB.out A0 (by omega)).1
                    go_wp2
                    go_quiet (fail)
                    go_wp2
                    go_roundg (A.length - (j + 1))
                    case measure => omega
                    case rel => exact ⟨j + 1, by omega, by omega, by go_num, by rw [HT.out.1], by rw [HT.out.2.1]; rfl, by rw [HT.out.2.2], below_drewN hbz5 _⟩
        · have hd2 : decide ((j : Int) < (A.length : Int)) = false := by simp; omega
          have htk : A.take j = A := List.take_of_length_le (by omega)
          rw [htk] at *
          have h1 := HCt.out.1
          have h2 := HCt.out.2
          go_wp2
          go_ret
          exact ⟨rfl, hb11⟩

end Go.Proofs.Qxb6601521a
