/-
  The walk of FnHistoryFaultsSplitAtANonToolMessage.
-/
import Derived.Test.Qxb6601521aPlaA
import Derived.Test.Qxb6601521aZb21
import Derived.Test.Qxb6601521aHistF
import Derived.Test.Qxb6601521aHistG
import Derived.Test.Qxb6601521aHistZ
namespace Go.Proofs.Qxb6601521a
open Go.RowKit Go.Deep

theorem ZFs.low {w : World} {H H' : Nat} {r : Value} {F : List Flt} (h : ZFs w H r F) (hH : H' ≤ H) : ZFs w H' r F := by
  rcases h with h | ⟨h0, g, cap, h1, h2, h3⟩
  · exact .inl h
  · exact .inr ⟨h0, g, cap, h1, by omega, h3⟩

/-- the messages' first part, the second part -/
theorem Msgs.left {w : World} {a : Option Addr} {n : Nat} {M : Nat → Msg} (h : Msgs w a n M) (k : Nat) (hk : k ≤ n) : Msgs w a k M := fun h0 => by
  obtain ⟨b, o, ha, hc⟩ := h (by omega)
  exact ⟨b, o, ha, fun i hi => hc i (by omega)⟩

theorem Msgs.right {w : World} {a : Option Addr} {n : Nat} {M : Nat → Msg} (h : Msgs w a n M) (k : Nat) : Msgs w (Option.map (fun x => x.add (k * 8)) a) (n - k) (fun t => M (k + t)) := fun h0 => by
  obtain ⟨b, o, rfl, hc⟩ := h (by omega)
  refine ⟨b, o + k * 8, ?_, fun i hi => ?_⟩
  · simp [Addr.add]
  · have := hc (k + i) (by omega)
    rw [show o + k * 8 + i * 8 = o + (k + i) * 8 by omega]
    exact this

/-- a fault's four cells, moved up by k, against the whole list's -/
theorem fget_app_left (F G : List Flt) (i c : Nat) (hi : i < F.length) : fget (F ++ G) i c = fget F i c := by
  unfold fget; rw [List.getD_eq_getElem?_getD, List.getD_eq_getElem?_getD, List.getElem?_append_left hi]
theorem fget_app_right (F G : List Flt) (i c : Nat) : fget (F ++ G) (F.length + i) c = fget G i c := by
  unfold fget
  rw [List.getD_eq_getElem?_getD, List.getD_eq_getElem?_getD, List.getElem?_append_right (by omega), Nat.add_sub_cancel_left]
theorem fget_up (G : List Flt) (k i : Nat) (hi : i < G.length) : fget (G.map (Flt.up k)) i 0 = fget G i 0 ∧ fget (G.map (Flt.up k)) i 1 = fget G i 1 + k ∧ fget (G.map (Flt.up k)) i 2 = (if 0 ≤ fget G i 2 then fget G i 2 + k else fget G i 2) ∧ fget (G.map (Flt.up k)) i 3 = fget G i 3 := by
  have e1 : G.getD i Flt.zero = G[i] := by simp [List.getD_eq_getElem?_getD, hi]
  have e2 : (G.map (Flt.up k)).getD i Flt.zero = Flt.up k G[i] := by simp [List.getD_eq_getElem?_getD, hi]
  unfold fget
  rw [e1, e2]
  exact ⟨rfl, rfl, rfl, rfl⟩
theorem fget_mem (G : List Flt) (i : Nat) (hi : i < G.length) : ∃ f ∈ G, fget G i 0 = f.kind ∧ fget G i 1 = f.at_ ∧ fget G i 2 = f.asked ∧ fget G i 3 = f.call := by
  have e1 : G.getD i Flt.zero = G[i] := by simp [List.getD_eq_getElem?_getD, hi]
  refine ⟨G[i], List.getElem_mem hi, ?_⟩
  unfold fget
  rw [e1]
  exact ⟨rfl, rfl, rfl, rfl⟩

set_option maxRecDepth 100000 in
set_option maxHeartbeats 1000000 in
theorem walk5 (a : Option Addr) (n c : Nat) (k : Int) (M : Nat → Msg) (W : World) (hn : n ≤ maxLen) (hMx : ∀ i, i < n → (M i).nc ≤ maxLen ∧ (M i).nt ≤ maxLen ∧ (M i).np ≤ maxLen) (hM : HMsgs W a n M) (hk1 : -9223372036854775808 ≤ k) (hk2 : k ≤ 9223372036854775807) :
    Calls Try.prog 5 #[.slice a n c, .int .i64 k] W fun e w' => e = .returned (.bool true) ∧ Below W.heap.size W w' := by
  unfold maxLen at hn hMx
  have HM : Hid (HMsgs W a n M ∧ ∀ i, i < n → (M i).nc ≤ 9223372036854775807 ∧ (M i).nt ≤ 9223372036854775807 ∧ (M i).np ≤ 9223372036854775807) := ⟨hM, fun i hi => by have := hMx i hi; omega⟩
  clear hM hMx
  have C := bytes21 a n c k M W HM.out.1
  go_enter Try.func5, Try.ntmps5
  go_wp2_with fail
  refine C.mono ?_; clear C
  rintro e w1 ⟨⟨b, rfl⟩, rfl⟩
  cases b
  · go_wp2
    go_ret
    exact ⟨rfl, Below.refl _ _⟩
  go_wp2_with fail
  have C := msgsBytes10 a n c M w1 (by omega) HM.out.1 HM.out.2
  refine C.mono ?_; clear C
  rintro e w2 ⟨t, rfl, hb2, ht⟩
  by_cases hcap : 1048576 < t
  · go_wp2
    go_ret
    exact ⟨rfl, hb2⟩
  obtain ⟨hn', hbnd⟩ := ht (by omega)
  have HB : Hid (∀ i, i < n → (M i).nc ≤ 1048576 ∧ (M i).nt ≤ 1048576 ∧ (M i).np ≤ 1048576) := hbnd
  clear hbnd ht
  by_cases hk0 : k < 0
  · go_wp2
    go_ret
    exact ⟨rfl, hb2⟩
  by_cases hkn : (n : Int) < k
  · go_wp2
    go_ret
    exact ⟨rfl, hb2⟩
  obtain ⟨k, rfl⟩ := Int.eq_ofNat_of_zero_le (by omega : 0 ≤ k)
  have hkn' : k ≤ n := by omega
  go_upto_region 7 with (fail)
  go_cut [37] from 12 to 107 (fun v wc => v = .bool (decide (k < n) && toolB (M k).role) ∧ Below w1.heap.size w1 wc)
  case first =>
    as_aux_lemma =>
      by_cases hlt : k < n
      · obtain ⟨b, o, rfl, hmsg⟩ := HM.out.1.2 (by omega)
        obtain ⟨s1, s7, ff, a2, c2, a5, c5, a6, c6, e0, e1, e2, e3, e4, e5, e6, e7, _⟩ := hmsg k hlt
        have e0 := cell_ext (Nat.le_refl _) hb2 e0
        have e1 := cell_ext (Nat.le_refl _) hb2 e1
        have e2 := cell_ext (Nat.le_refl _) hb2 e2
        have e3 := cell_ext (Nat.le_refl _) hb2 e3
        have e4 := cell_ext (Nat.le_refl _) hb2 e4
        have e5 := cell_ext (Nat.le_refl _) hb2 e5
        have e6 := cell_ext (Nat.le_refl _) hb2 e6
        have e7 := cell_ext (Nat.le_refl _) hb2 e7
        clear hmsg
        have C := isTool17 (M k).role s1 (M k).tcid s7 ff a2 a5 a6 (M k).nc (M k).nt (M k).np c2 c5 c6 w2
        go_wp2_with fail
        refine C.mono ?_; clear C
        rintro e w3 ⟨rfl, hb3⟩
        have hb3' := hb2.trans (hb3.mono hb2.size)
        go_wp2
        go_meet
        case rel => exact ⟨by simp [hlt], hb3'⟩
      · go_wp2
        go_meet
        case rel => exact ⟨by simp [hlt], hb2⟩
  case rest =>
    obtain ⟨rfl, hb3⟩ := hcut
    cases htl : (decide (k < n) && toolB (M k).role)
    case true =>
      go_wp2
      go_ret
      exact ⟨rfl, hb3⟩
    have hbk : k = n ∨ toolB (M k).role = false := by
      by_cases e : k = n
      · exact .inl e
      · have : k < n := by omega
        rw [decide_eq_true this, Bool.true_and] at htl
        exact .inr htl
    have HS : Hid (histF M n = histF M k ++ (histF (fun t => M (k + t)) (n - k)).map (Flt.up k)) := hist_split M n k hkn' hbk
    clear hbk htl hb2
    go_wp2_with fail
    have C := toMsgs13 a n c M wc hn' HB.out (HM.out.1.ext (Nat.le_refl _) hb3)
    refine C.mono ?_; clear C
    rintro e w4 ⟨a', rfl, hb4', hms⟩
    have hb4 := hb3.trans (hb4'.mono hb3.size)
    clear hb4' hb3
    go_wp2_with fail
    have C := zzhistory12 a' n n M w4 hn' (fun i hi => (HB.out i hi).1) hms
    refine C.mono ?_; clear C
    rintro e w5 ⟨v5, rfl, hb5', hF5⟩
    have hb5 := hb4.trans (hb5'.mono hb4.size)
    have hms5 := hms.ext (Nat.le_refl _) hb5'
    have hl := histF_len M n hn' (fun i hi => (HB.out i hi).1)
    clear hb5' hb4 hms
    go_wp2_with fail
    have C := from11 w4.heap.size v5 (histF M n) w5 hF5 (by omega)
    refine C.mono ?_; clear C
    rintro e w6 ⟨r1, rfl, hb6', hz6⟩
    have hb6 := hb5.trans (hb6'.mono hb5.size)
    have hms6 := hms5.ext (Nat.le_refl _) hb6'
    clear hb6' hb5 hms5 hF5
    go_wp2_with fail
    have C := zzhistory12 a' k n M w6 (by omega) (fun i hi => (HB.out i (by omega)).1) (hms6.left k hkn')
    refine C.mono ?_; clear C
    rintro e w7 ⟨v7, rfl, hb7', hF7⟩
    have hb7 := hb6.trans (hb7'.mono hb6.size)
    have hms7 := hms6.ext (Nat.le_refl _) hb7'
    have hz7 := hz6.ext (Nat.le_refl _) hb7'
    have hlk := histF_len M k (by omega) (fun i hi => (HB.out i (by omega)).1)
    clear hb7' hb6 hms6 hz6
    go_wp2_with fail
    have C := from11 w6.heap.size v7 (histF M k) w7 hF7 (by omega)
    refine C.mono ?_; clear C
    rintro e w8 ⟨r2, rfl, hb8', hy8⟩
    have hb8 := hb7.trans (hb8'.mono hb7.size)
    have hms8 := hms7.ext (Nat.le_refl _) hb8'
    have hz8 := hz7.ext (Nat.le_refl _) hb8'
    clear hb8' hb7 hms7 hz7 hF7
    go_upto_region 12 with (fail)
    go_cut [8] from 12 to 107 (fun v wc => ZFs wc w8.heap.size v (histF (fun t => M (k + t)) (n - k)) ∧ Below w8.heap.size w8 wc)
    case first =>
      as_aux_lemma =>
        by_cases hnk : n = k
        · subst hnk
          go_wp2_with fail
          have C := zzhistory12 a' 0 0 (fun t => M (n + t)) w8 (by omega) (fun i hi => by omega) (fun h => by omega)
          refine C.mono ?_; clear C
          rintro e w9 ⟨v9, rfl, hb9, hF9⟩
          go_wp2_with fail
          have C := from11 w8.heap.size v9 _ w9 hF9 (by simp [histF, histFrom])
          refine C.mono ?_; clear C
          rintro e w10 ⟨r3, rfl, hb10, hx10⟩
          go_wp2
          go_meet
          case rel => exact ⟨by rw [Nat.sub_self]; exact hx10.low hb9.size, hb9.trans (hb10.mono hb9.size)⟩
        · have hlm := histF_len (fun t => M (k + t)) (n - k) (by omega) (fun i hi => (HB.out (k + i) (by omega)).1)
          go_wp2_with fail
          have C := zzhistory12 _ (n - k) (n - k) (fun t => M (k + t)) w8 (by omega) (fun i hi => (HB.out (k + i) (by omega)).1) (hms8.right k)
          refine C.mono ?_; clear C
          rintro e w9 ⟨v9, rfl, hb9, hF9⟩
          go_wp2_with fail
          have C := from11 w8.heap.size v9 _ w9 hF9 (by omega)
          refine C.mono ?_; clear C
          rintro e w10 ⟨r3, rfl, hb10, hx10⟩
          go_wp2
          go_meet
          case rel => exact ⟨hx10.low hb9.size, hb9.trans (hb10.mono hb9.size)⟩
    case rest =>
      obtain ⟨hx, hb9⟩ := hcut
      obtain ⟨a1, c1, e1, q1⟩ := (hz8.ext (Nat.le_refl _) hb9).read
      obtain ⟨a2, c2, rfl, q2⟩ := (hy8.ext (Nat.le_refl _) hb9).read
      obtain ⟨a3, c3, rfl, q3⟩ := hx.read
      have hb10 : Below w1.heap.size w1 wc := hb8.trans (hb9.mono hb8.size)
      have hlm := histF_len (fun t => M (k + t)) (n - k) (by omega) (fun i hi => (HB.out (k + i) (by omega)).1)
      have hlen : (histF M n).length = (histF M k).length + (histF (fun t => M (k + t)) (n - k)).length := by rw [HS.out]; simp
      have HR : Hid (∀ i, i < (histF (fun t => M (k + t)) (n - k)).length → 0 ≤ fget (histF (fun t => M (k + t)) (n - k)) i 1 ∧ fget (histF (fun t => M (k + t)) (n - k)) i 1 ≤ 1048576 ∧ -1 ≤ fget (histF (fun t => M (k + t)) (n - k)) i 2 ∧ fget (histF (fun t => M (k + t)) (n - k)) i 2 ≤ 1048576) := fun i hi => by
        obtain ⟨f, hf, _, h1, h2, _⟩ := fget_mem _ i hi
        have := histF_range _ _ f hf
        omega
      have HS1 : Hid (∀ i, i < (histF M k).length → ∀ c, fget (histF M n) i c = fget (histF M k) i c) := fun i hi c => by rw [HS.out, fget_app_left _ _ _ _ hi]
      have HS2 : Hid (∀ i, i < (histF (fun t => M (k + t)) (n - k)).length → ∀ c, fget (histF M n) ((histF M k).length + i) c = fget ((histF (fun t => M (k + t)) (n - k)).map (Flt.up k)) i c) := fun i hi c => by rw [HS.out, fget_app_right]
      clear HS hz8 hy8 hx hb9 hb8 hms8 HB HM
      rw [hlen] at e1 q1 hl
      obtain rfl := e1
      clear hlen
      generalize histF M n = A at *
      generalize histF M k = L at *
      generalize histF (fun t => M (k + t)) (n - k) = R at *
      have HQ : Hid ((∀ i, i < L.length + R.length → ∃ g, a1 = some ⟨g, 0, none⟩ ∧ g < wc.heap.size ∧ wc.cell? ⟨g, i * 4, none⟩ = some (.int .i64 (fget A i 0)) ∧
          wc.cell? ⟨g, i * 4 + 1, none⟩ = some (.int .i64 (fget A i 1)) ∧ wc.cell? ⟨g, i * 4 + 2, none⟩ = some (.int .i64 (fget A i 2)) ∧ wc.cell? ⟨g, i * 4 + 3, none⟩ = some (.int .i64 (fget A i 3))) ∧
        (∀ i, i < L.length → ∃ g, a2 = some ⟨g, 0, none⟩ ∧ g < wc.heap.size ∧ wc.cell? ⟨g, i * 4, none⟩ = some (.int .i64 (fget L i 0)) ∧
          wc.cell? ⟨g, i * 4 + 1, none⟩ = some (.int .i64 (fget L i 1)) ∧ wc.cell? ⟨g, i * 4 + 2, none⟩ = some (.int .i64 (fget L i 2)) ∧ wc.cell? ⟨g, i * 4 + 3, none⟩ = some (.int .i64 (fget L i 3))) ∧
        (∀ i, i < R.length → ∃ g, a3 = some ⟨g, 0, none⟩ ∧ g < wc.heap.size ∧ wc.cell? ⟨g, i * 4, none⟩ = some (.int .i64 (fget R i 0)) ∧
          wc.cell? ⟨g, i * 4 + 1, none⟩ = some (.int .i64 (fget R i 1)) ∧ wc.cell? ⟨g, i * 4 + 2, none⟩ = some (.int .i64 (fget R i 2)) ∧ wc.cell? ⟨g, i * 4 + 3, none⟩ = some (.int .i64 (fget R i 3)))) := ⟨q1, q2, q3⟩
      clear q1 q2 q3
      have hgd := guard40
      go_wp2
      go_loopg [9] L.length (fun gk t wr => ∃ i : Nat, i ≤ L.length ∧ L.length ≤ i + gk ∧ t = .int .i64 i ∧ Below wc.heap.size wc wr)
      case atStart => exact ⟨0, Nat.zero_le _, by omega, rfl, Below.refl _ _⟩
      case round =>
        obtain ⟨i, hi, hgk, rfl, hb⟩ := hrel
        by_cases hlt : i < L.length
        · as_aux_lemma =>
            obtain ⟨g1, rfl, hg1, p0, p1, p2, p3⟩ := HQ.out.1 i (by omega)
            obtain ⟨g2, rfl, hg2, r0, r1, r2, r3⟩ := HQ.out.2.1 i hlt
            rw [HS1.out i hlt] at p0 p1 p2 p3
            have p0 := cell_ext (Nat.le_refl _) hb p0
            have p1 := cell_ext (Nat.le_refl _) hb p1
            have p2 := cell_ext (Nat.le_refl _) hb p2
            have p3 := cell_ext (Nat.le_refl _) hb p3
            have r0 := cell_ext (Nat.le_refl _) hb r0
            have r1 := cell_ext (Nat.le_refl _) hb r1
            have r2 := cell_ext (Nat.le_refl _) hb r2
            have r3 := cell_ext (Nat.le_refl _) hb r3
            have hne := fun w => neq40 (fget L i 0) (fget L i 1) (fget L i 2) (fget L i 3) (fget L i 0) (fget L i 1) (fget L i 2) (fget L i 3) w
            go_wp2
            go_quiet (fail)
            go_wp2
            go_roundg (L.length - (i + 1))
            case measure => omega
            case rel => exact ⟨i + 1, by omega, by omega, by go_num, below_drewN hb _⟩
        · have hd : decide ((i : Int) < (L.length : Int)) = false := by simp; omega
          have hb11 := hb10.trans (hb.mono hb10.size)
          go_wp2
          go_loopg [10, 11] R.length (fun gk t v wz => ∃ i : Nat, i ≤ R.length ∧ R.length ≤ i + gk ∧ t = .int .i64 i ∧ Below wr.heap.size wr wz)
          case atStart => exact ⟨0, Nat.zero_le _, by omega, rfl, Below.refl _ _⟩
          case round =>
            obtain ⟨j, hj, hgj, rfl, hbz⟩ := hrel
            have hbb := hb.trans (hbz.mono hb.size)
            by_cases hlj : j < R.length
            · obtain ⟨g1, rfl, hg1, p0, p1, p2, p3⟩ := HQ.out.1 (L.length + j) (by omega)
              obtain ⟨g3, rfl, hg3, r0, r1, r2, r3⟩ := HQ.out.2.2 j hlj
              rw [HS2.out j hlj] at p0 p1 p2 p3
              obtain ⟨x0, x1, x2, x3⟩ := fget_up R k j hlj
              rw [x0] at p0
              rw [x1] at p1
              rw [x2] at p2
              rw [x3] at p3
              clear x0 x1 x2 x3
              obtain ⟨y1, y2, y3, y4⟩ := HR.out j hlj
              have p0 := cell_ext (Nat.le_refl _) hbb p0
              have p1 := cell_ext (Nat.le_refl _) hbb p1
              have p2 := cell_ext (Nat.le_refl _) hbb p2
              have p3 := cell_ext (Nat.le_refl _) hbb p3
              have r0 := cell_ext (Nat.le_refl _) hbb r0
              have r1 := cell_ext (Nat.le_refl _) hbb r1
              have r2 := cell_ext (Nat.le_refl _) hbb r2
              have r3 := cell_ext (Nat.le_refl _) hbb r3
              generalize fget R j 0 = f0 at *
              generalize fget R j 1 = f1 at *
              generalize fget R j 2 = f2 at *
              generalize fget R j 3 = f3 at *
              by_cases hf2 : 0 ≤ f2
              · rw [if_pos hf2] at p2
                go_upto_region 27 with (fail)
                have hal := (Below.refl wr.heap.size wr).alloc (Nat.le_refl _) (.cells #[.int .i64 f0, .int .i64 (f1 + k), .int .i64 (f2 + k), .int .i64 f3] 40)
                have p0 := cell_ext (Nat.le_refl _) hal p0
                have p1 := cell_ext (Nat.le_refl _) hal p1
                have p2 := cell_ext (Nat.le_refl _) hal p2
                have p3 := cell_ext (Nat.le_refl _) hal p3
                have hb13 := hbz.trans (hal.mono hbz.size)
                have l0 : (wr.alloc (.cells #[.int .i64 f0, .int .i64 (f1 + k), .int .i64 (f2 + k), .int .i64 f3] 40)).cell? ⟨wr.heap.size, 0, none⟩ = some (.int .i64 f0) := by simp
                have l1 : (wr.alloc (.cells #[.int .i64 f0, .int .i64 (f1 + k), .int .i64 (f2 + k), .int .i64 f3] 40)).cell? ⟨wr.heap.size, 1, none⟩ = some (.int .i64 (f1 + k)) := by simp
                have l2 : (wr.alloc (.cells #[.int .i64 f0, .int .i64 (f1 + k), .int .i64 (f2 + k), .int .i64 f3] 40)).cell? ⟨wr.heap.size, 2, none⟩ = some (.int .i64 (f2 + k)) := by simp
                have l3 : (wr.alloc (.cells #[.int .i64 f0, .int .i64 (f1 + k), .int .i64 (f2 + k), .int .i64 f3] 40)).cell? ⟨wr.heap.size, 3, none⟩ = some (.int .i64 f3) := by simp
                generalize wr.alloc (.cells #[.int .i64 f0, .int .i64 (f1 + k), .int .i64 (f2 + k), .int .i64 f3] 40) = wa at *
                clear hal r0 r1 r2 r3
                generalize wr.heap.size = X at *
                have hne := fun w => neq40 f0 (f1 + k) (f2 + k) f3 f0 (f1 + k) (f2 + k) f3 w
                go_quiet (fail)
                go_wp2
                go_roundg (R.length - (j + 1))
                case measure => omega
                case rel => exact ⟨j + 1, by omega, by omega, by go_num, below_drewN hb13 _⟩
              · rw [if_neg hf2] at p2
                go_upto_region 27 with (fail)
                have hal := (Below.refl wr.heap.size wr).alloc (Nat.le_refl _) (.cells #[.int .i64 f0, .int .i64 (f1 + k), .int .i64 f2, .int .i64 f3] 40)
                have p0 := cell_ext (Nat.le_refl _) hal p0
                have p1 := cell_ext (Nat.le_refl _) hal p1
                have p2 := cell_ext (Nat.le_refl _) hal p2
                have p3 := cell_ext (Nat.le_refl _) hal p3
                have hb13 := hbz.trans (hal.mono hbz.size)
                have l0 : (wr.alloc (.cells #[.int .i64 f0, .int .i64 (f1 + k), .int .i64 f2, .int .i64 f3] 40)).cell? ⟨wr.heap.size, 0, none⟩ = some (.int .i64 f0) := by simp
                have l1 : (wr.alloc (.cells #[.int .i64 f0, .int .i64 (f1 + k), .int .i64 f2, .int .i64 f3] 40)).cell? ⟨wr.heap.size, 1, none⟩ = some (.int .i64 (f1 + k)) := by simp
                have l2 : (wr.alloc (.cells #[.int .i64 f0, .int .i64 (f1 + k), .int .i64 f2, .int .i64 f3] 40)).cell? ⟨wr.heap.size, 2, none⟩ = some (.int .i64 f2) := by simp
                have l3 : (wr.alloc (.cells #[.int .i64 f0, .int .i64 (f1 + k), .int .i64 f2, .int .i64 f3] 40)).cell? ⟨wr.heap.size, 3, none⟩ = some (.int .i64 f3) := by simp
                generalize wr.alloc (.cells #[.int .i64 f0, .int .i64 (f1 + k), .int .i64 f2, .int .i64 f3] 40) = wa at *
                clear hal r0 r1 r2 r3
                generalize wr.heap.size = X at *
                have hne := fun w => neq40 f0 (f1 + k) f2 f3 f0 (f1 + k) f2 f3 w
                go_quiet (fail)
                go_wp2
                go_roundg (R.length - (j + 1))
                case measure => omega
                case rel => exact ⟨j + 1, by omega, by omega, by go_num, below_drewN hb13 _⟩
            · have hd2 : decide ((j : Int) < (R.length : Int)) = false := by simp; omega
              have hb12 := hb11.trans (hbz.mono hb11.size)
              go_wp2
              go_ret
              exact ⟨rfl, hb12⟩

end Go.Proofs.Qxb6601521a
