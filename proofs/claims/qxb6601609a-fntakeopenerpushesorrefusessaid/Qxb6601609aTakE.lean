/-
  The walk of FnTakeOpenerPushesOrRefuses.
-/
import Derived.Test.Qxb6601609aTakC
import Derived.Test.Qxb6601609aTakD
namespace Go.Proofs.Qxb6601609a
open Go.RowKit Go.Deep
set_option linter.unusedVariables false

theorem At.congr {w : World} {a : Option Addr} {n : Nat} {f g : Nat → Value} (h : At w a n f) (hfg : ∀ i, i < n → f i = g i) : At w a n g := fun hn => by
  obtain ⟨b, o, ha, hc⟩ := h hn
  exact ⟨b, o, ha, fun i hi => (hc i hi).trans (by rw [hfg i hi])⟩
/-- some bool -/
def SomeB (v : Value) : Prop := ∃ t : Bool, v = .bool t

set_option maxRecDepth 100000 in
set_option maxHeartbeats 4000000 in
theorem walk8 (a0 a1 a2 : Option Addr) (n0 n1 n2 c0 c1 c2 : Nat) (zs zc : Nat → Int) (qb : Nat → Bool) (m b d k f s e : Int) (W : World) (l0 : n0 ≤ 9223372036854775807) (l1 : n1 ≤ 9223372036854775807) (l2 : n2 ≤ 9223372036854775807)
    (h0 : a0 = none → n0 = 0) (h1 : a1 = none → n1 = 0) (h2 : a2 = none → n2 = 0) (A0 : At W a0 n0 (u8s zs)) (A1 : At W a1 n1 (u8s zc)) (A2 : At W a2 n2 (bos qb))
    (hm1 : -9223372036854775808 ≤ m) (hm2 : m ≤ 9223372036854775807) (hs1 : -9223372036854775808 ≤ s) (hs2 : s ≤ 9223372036854775807) (he1 : -9223372036854775808 ≤ e) (he2 : e ≤ 9223372036854775807) :
    Calls Try.prog 8 #[.slice a0 n0 c0, .slice a1 n1 c1, .slice a2 n2 c2, .int .i64 m, .int .i64 b, .int .i64 d, .int .i64 k, .int .i64 f, .int .i64 s, .int .i64 e] W fun r w' => r = .returned (.bool true) ∧ Below W.heap.size W w' := by
  have HA : Hid ((a0 = none → n0 = 0) ∧ (a1 = none → n1 = 0) ∧ (a2 = none → n2 = 0) ∧ At W a0 n0 (u8s zs) ∧ At W a1 n1 (u8s zc) ∧ At W a2 n2 (bos qb)) := ⟨h0, h1, h2, A0, A1, A2⟩
  clear h0 h1 h2 A0 A1 A2
  have C := bytes26 a0 a1 a2 n0 n1 n2 c0 c1 c2 (.int .i64 m) (.int .i64 b) (.int .i64 d) (.int .i64 k) (.int .i64 f) (.int .i64 s) (.int .i64 e) W l0 l1 l2
  go_enter Try.func8, Try.ntmps8
  go_wp2_with fail
  refine C.mono ?_; clear C
  rintro r w1 ⟨⟨t, rfl⟩, rfl⟩
  cases t
  · go_wp2
    go_ret
    exact ⟨rfl, Below.refl _ _⟩
  by_cases g0 : 65536 < n0
  · go_wp2
    go_ret
    exact ⟨rfl, Below.refl _ _⟩
  by_cases g1 : 4096 < n1
  · go_wp2
    go_ret
    exact ⟨rfl, Below.refl _ _⟩
  by_cases g2 : 4096 < n2
  · go_wp2
    go_ret
    exact ⟨rfl, Below.refl _ _⟩
  by_cases g3 : n1 = n2
  case neg =>
    have g3b : ((n1 : Int) == (n2 : Int)) = false := by simp; omega
    have g3c : ((n1 : Int) != (n2 : Int)) = true := by simp; omega
    go_wp2
    go_ret
    exact ⟨rfl, Below.refl _ _⟩
  subst g3
  by_cases g4 : s < 0
  · go_wp2
    go_ret
    exact ⟨rfl, Below.refl _ _⟩
  by_cases g5 : e ≤ s
  · go_wp2
    go_ret
    exact ⟨rfl, Below.refl _ _⟩
  by_cases g6 : (n0 : Int) < e
  · go_wp2
    go_ret
    exact ⟨rfl, Below.refl _ _⟩
  obtain ⟨st, rfl⟩ := Int.eq_ofNat_of_zero_le (by omega : 0 ≤ s)
  obtain ⟨en, rfl⟩ := Int.eq_ofNat_of_zero_le (by omega : 0 ≤ e)
  have hst : st < en := by omega
  have hen : en ≤ n0 := by omega
  have C := clone11 a0 n0 c0 zs w1 (by omega) HA.out.1 HA.out.2.2.2.1
  go_wp2_with fail
  refine C.mono ?_; clear C
  rintro r w2 ⟨b0, rfl, hb2, B0⟩
  have C := clone11 a1 n1 c1 zc w2 (by omega) HA.out.2.1 (HA.out.2.2.2.2.1.ext (Nat.le_refl _) hb2)
  go_wp2_with fail
  refine C.mono ?_; clear C
  rintro r w3 ⟨b1, rfl, hb3', B1⟩
  have hb3 := hb2.trans (hb3'.mono hb2.size)
  have C := clone22 a2 n1 c2 qb w3 (by omega) HA.out.2.2.1 (HA.out.2.2.2.2.2.ext (Nat.le_refl _) hb3)
  go_wp2_with fail
  refine C.mono ?_; clear C
  rintro r w4 ⟨b2, rfl, hb4', B2⟩
  have hb4 := hb3.trans (hb4'.mono hb3.size)
  have B0 := (B0.ext (Nat.le_refl _) hb3').ext (Nat.le_refl _) hb4'
  have B1 := B1.ext (Nat.le_refl _) hb4'
  clear hb3' hb4' hb2 hb3
  obtain ⟨S, so, rfl, hS0⟩ := B0.get st (by omega)
  have hS : w4.cell? ⟨S, so + st, none⟩ = some (.int .u8 (zs st)) := hS0
  clear hS0
  have HB : Hid (At w4 b1 n1 (u8s zc) ∧ At w4 b2 n1 (bos qb)) := ⟨B1, B2⟩
  clear B0 B1 B2 HA l0 l1 l2 hs1 hs2 he1 he2
  generalize zs st = ch at *
  have C := model17 ch w4
  go_wp2_with fail
  refine C.mono ?_; clear C
  rintro r w4 ⟨rfl, rfl⟩
  by_cases hcl : clo ch = 0
  · rw [hcl]
    go_wp2
    go_ret
    exact ⟨rfl, hb4⟩
  have hclb : (clo ch == 0) = false := by simpa using hcl
  by_cases h100 : n1 = 100
  · subst h100
    as_aux_lemma =>
      have C := state18 S so n0 100 st en 100 100 b1 b2 m b d k f zc qb w4 (by omega) HB.out.1 HB.out.2 ch hS st 1 100 zc qb m b (by omega)
        (fun base N O wx hbN hbz hON hSN hR hO hOl hSx => take30a base N S so n0 O 100 st en ch m b d k f zc qb wx hbN hbz hON hSN hst hen (by omega) (by omega) hcl hR hO hOl hSx rfl)
      go_wp2_with fail
      refine C.mono ?_; clear C
      rintro r w5 ⟨ev, x1, x2, rfl, hb5', hE, X1, X2⟩
      have hb5 := hb4.trans (hb5'.mono hb4.size)
      have HB5 : Hid (At w5 b1 100 (u8s zc) ∧ At w5 b2 100 (bos qb)) := ⟨HB.out.1.ext (Nat.le_refl _) hb5', HB.out.2.ext (Nat.le_refl _) hb5'⟩
      have C := prefix23 x1 x2 b1 b2 100 100 100 100 100 100 100 100 100 zc qb w5 (by omega) (Nat.le_refl _) (Nat.le_refl _) (Nat.le_refl _) (Nat.le_refl _) X1 X2 HB5.out.1 HB5.out.2
      obtain ⟨E, rfl, q0, q1, q2, q3, q4, q5⟩ : ErrIs w5 ev nestT 101 100 := by
        rcases hE with ⟨h, _⟩ | ⟨_, h⟩ | ⟨h, _⟩
        · cases h
        · exact h
        · cases h
      unfold nestT at q0
      clear X1 X2 hE
      go_upto_region 24 with (fail)
      go_cut [33] from 34 to 306 (fun v wd => SomeB v ∧ wd = w5)
      case first =>
        by_cases hc1 : ch = 123
        · subst hc1
          go_wp2
          go_meet
          case rel => exact ⟨⟨_, rfl⟩, by first | rfl | trivial⟩
        · have hc1b : (ch == 123) = false := by simpa using hc1
          go_wp2
          go_meet
          case rel => exact ⟨⟨_, rfl⟩, by first | rfl | trivial⟩
      case rest =>
        obtain ⟨⟨ob, rfl⟩, hwd⟩ := hcut
        subst hwd
        go_wp2_with fail
        refine C.mono ?_; clear C
        rintro r w6 ⟨rfl, hb6⟩
        have q0 := cell_ext (Nat.le_refl _) hb6 q0
        have q4 := cell_ext (Nat.le_refl _) hb6 q4
        have q5 := cell_ext (Nat.le_refl _) hb6 q5
        have hb7 := hb5.trans (hb6.mono hb5.size)
        go_wp2
        go_ret
        exact ⟨rfl, hb7⟩
  have h100b : ((n1 : Int) == 100) = false := by simp; omega
  by_cases href : m = 31 ∧ ((ch = 123 ∧ b = n1) ∨ (ch = 60 ∧ 0 ≤ f))
  · obtain ⟨rfl, hor⟩ := href
    rcases hor with ⟨rfl, rfl⟩ | ⟨rfl, hf⟩
    · as_aux_lemma =>
        have C := state18 S so n0 n1 st en n1 n1 b1 b2 31 n1 d k f zc qb w4 (by omega) HB.out.1 HB.out.2 123 hS d 2 n1 zc qb 31 n1 (by omega)
          (fun base N O wx hbN hbz hON hSN hR hO hOl hSx => take30b base N S so n0 O n1 st en 123 31 n1 d k f zc qb wx hbN hbz hON hSN hst hen (by omega) (by omega) hcl hR hO hOl hSx h100 rfl d (.inl ⟨rfl, rfl, rfl⟩))
        go_wp2_with fail
        refine C.mono ?_; clear C
        rintro r w5 ⟨ev, x1, x2, rfl, hb5', hE, X1, X2⟩
        have hb5 := hb4.trans (hb5'.mono hb4.size)
        have C := prefix23 x1 x2 b1 b2 n1 n1 n1 n1 n1 n1 n1 n1 n1 zc qb w5 (by omega) (Nat.le_refl _) (Nat.le_refl _) (Nat.le_refl _) (Nat.le_refl _) X1 X2 (HB.out.1.ext (Nat.le_refl _) hb5') (HB.out.2.ext (Nat.le_refl _) hb5')
        obtain ⟨E, rfl, q0, q1, q2, q3, q4, q5⟩ : ErrIs w5 ev msgT 32 31 := by
          rcases hE with ⟨h, _⟩ | ⟨h, _⟩ | ⟨_, h⟩
          · cases h
          · cases h
          · exact h
        unfold msgT at q0
        clear X1 X2 hE
        go_wp2_with fail
        refine C.mono ?_; clear C
        rintro r w6 ⟨rfl, hb6⟩
        have q0 := cell_ext (Nat.le_refl _) hb6 q0
        have q4 := cell_ext (Nat.le_refl _) hb6 q4
        have q5 := cell_ext (Nat.le_refl _) hb6 q5
        have hb7 := hb5.trans (hb6.mono hb5.size)
        go_wp2
        go_ret
        exact ⟨rfl, hb7⟩
    · as_aux_lemma =>
        have C := state18 S so n0 n1 st en n1 n1 b1 b2 31 b d k f zc qb w4 (by omega) HB.out.1 HB.out.2 60 hS f 2 n1 zc qb 31 b (by omega)
          (fun base N O wx hbN hbz hON hSN hR hO hOl hSx => take30b base N S so n0 O n1 st en 60 31 b d k f zc qb wx hbN hbz hON hSN hst hen (by omega) (by omega) hcl hR hO hOl hSx h100 rfl f (.inr ⟨rfl, hf, rfl⟩))
        go_wp2_with fail
        refine C.mono ?_; clear C
        rintro r w5 ⟨ev, x1, x2, rfl, hb5', hE, X1, X2⟩
        have hb5 := hb4.trans (hb5'.mono hb4.size)
        have C := prefix23 x1 x2 b1 b2 n1 n1 n1 n1 n1 n1 n1 n1 n1 zc qb w5 (by omega) (Nat.le_refl _) (Nat.le_refl _) (Nat.le_refl _) (Nat.le_refl _) X1 X2 (HB.out.1.ext (Nat.le_refl _) hb5') (HB.out.2.ext (Nat.le_refl _) hb5')
        obtain ⟨E, rfl, q0, q1, q2, q3, q4, q5⟩ : ErrIs w5 ev msgT 32 31 := by
          rcases hE with ⟨h, _⟩ | ⟨h, _⟩ | ⟨_, h⟩
          · cases h
          · cases h
          · exact h
        unfold msgT at q0
        clear X1 X2 hE
        go_wp2_with fail
        refine C.mono ?_; clear C
        rintro r w6 ⟨rfl, hb6⟩
        have q0 := cell_ext (Nat.le_refl _) hb6 q0
        have q4 := cell_ext (Nat.le_refl _) hb6 q4
        have q5 := cell_ext (Nat.le_refl _) hb6 q5
        have hb7 := hb5.trans (hb6.mono hb5.size)
        go_wp2
        go_ret
        exact ⟨rfl, hb7⟩
  obtain ⟨bf, hbf⟩ : ∃ bf, bf = (decide (ch = 123) && decide (b = (n1 : Int))) := ⟨_, rfl⟩
  have C := state18 S so n0 n1 st en n1 n1 b1 b2 m b d k f zc qb w4 (by omega) HB.out.1 HB.out.2 ch hS 0 0 (n1 + 1) (zP n1 zc (clo ch)) (qP n1 qb bf) (mO bf m) (bO bf b) (by omega)
    (fun base N O wx hbN hbz hON hSN hR hO hOl hSx => take30c base N S so n0 O n1 st en ch m b d k f zc qb wx hbN hbz hON hSN hst hen (by omega) (by omega) hcl hR hO hOl hSx h100 href bf hbf hm1 hm2)
  have HBF : Hid (bf = (decide (ch = 123) && decide (b = (n1 : Int)))) := hbf
  have HREF : Hid (¬ (m = 31 ∧ ((ch = 123 ∧ b = n1) ∨ (ch = 60 ∧ 0 ≤ f)))) := href
  clear hbf href
  go_wp2_with fail
  refine C.mono ?_; clear C
  rintro r w5 ⟨ev, x1, x2, rfl, hb5', hE, X1, X2⟩
  have hb5 := hb4.trans (hb5'.mono hb4.size)
  obtain rfl : ev = .pointer none := by
    rcases hE with ⟨_, h⟩ | ⟨h, _⟩ | ⟨h, _⟩
    · exact h
    · cases h
    · cases h
  have C := prefix23 x1 x2 b1 b2 (n1 + 1) (n1 + 1) n1 n1 (n1 + 1) (n1 + 1) n1 n1 n1 zc qb w5 (by omega) (by omega) (by omega) (Nat.le_refl _) (Nat.le_refl _) ((X1.less n1 (by omega)).congr fun i hi => by simp [u8s, zP, hi]) ((X2.less n1 (by omega)).congr fun i hi => by simp [bos, qP, hi]) (HB.out.1.ext (Nat.le_refl _) hb5') (HB.out.2.ext (Nat.le_refl _) hb5')
  obtain ⟨p1, o1, rfl, y1⟩ := X1.get n1 (by omega)
  obtain ⟨p2, o2, rfl, y2⟩ := X2.get n1 (by omega)
  have Y1 : w5.cell? ⟨p1, o1 + n1, none⟩ = some (.int .u8 (clo ch)) := by rw [y1]; simp [u8s, zP]
  have Y2 : w5.cell? ⟨p2, o2 + n1, none⟩ = some (.bool bf) := by rw [y2]; simp [bos, qP]
  clear X1 X2 hE y1 y2 hb5'
  go_upto_region 24 with (fail)
  go_cut [33] from 34 to 306 (fun v wd => v = .bool bf ∧ wd = w5)
  case first =>
    as_aux_lemma =>
      by_cases hc1 : ch = 123
      · subst hc1
        by_cases hbn : b = n1
        · subst hbn
          obtain rfl : bf = true := by rw [HBF.out]; simp
          go_wp2
          go_meet
          case rel => exact ⟨rfl, by first | rfl | trivial⟩
        · obtain rfl : bf = false := by rw [HBF.out]; simp [hbn]
          have hbnb : (b == (n1 : Int)) = false := by simpa using hbn
          go_wp2
          go_meet
          case rel => exact ⟨rfl, by first | rfl | trivial⟩
      · obtain rfl : bf = false := by rw [HBF.out]; simp [hc1]
        have hc1b : (ch == 123) = false := by simpa using hc1
        go_wp2
        go_meet
        case rel => exact ⟨rfl, by first | rfl | trivial⟩
  case rest =>
    obtain ⟨rfl, hwd⟩ := hcut
    subst hwd
    obtain ⟨w5, rfl⟩ : ∃ w5, w5 = wc := ⟨_, rfl⟩
    go_upto_region 43 with (fail)
    go_cut [256] from 34 to 306 (fun v wd => v = .bool false ∧ wd = w5)
    case first =>
      as_aux_lemma =>
        by_cases hm31 : m = 31
        · subst hm31
          obtain rfl : bf = false := by
            cases hb : bf
            · rfl
            · exfalso
              have := HBF.out
              rw [hb] at this
              have hcc : ch = 123 ∧ b = n1 := by simpa using this.symm
              exact HREF.out ⟨rfl, .inl hcc⟩
          by_cases h60 : ch = 60
          · subst h60
            have hfn : ¬ 0 ≤ f := fun h => HREF.out ⟨rfl, .inr ⟨rfl, h⟩⟩
            have hfd : decide (0 ≤ f) = false := by simpa using hfn
            go_wp2
            go_meet
            case rel => exact ⟨rfl, by first | rfl | trivial⟩
          · have h60b : (ch == 60) = false := by simpa using h60
            go_wp2
            go_meet
            case rel => exact ⟨rfl, by first | rfl | trivial⟩
        · have hm31b : (m == 31) = false := by simpa using hm31
          go_wp2
          go_meet
          case rel => exact ⟨rfl, by first | rfl | trivial⟩
    case rest =>
      obtain ⟨rfl, hwd⟩ := hcut
      subst hwd
      go_wp2_with fail
      refine C.mono ?_; clear C
      rintro r w6 ⟨rfl, hb6⟩
      have Y1 := cell_ext (Nat.le_refl _) hb6 Y1
      have Y2 := cell_ext (Nat.le_refl _) hb6 Y2
      have hb7 := hb5.trans (hb6.mono hb5.size)
      as_aux_lemma =>
        cases bf
        · have e1 : mO false m = m := rfl
          have e2 : bO false b = b := rfl
          rw [e1, e2]
          clear e1 e2
          go_wp2
          go_ret
          exact ⟨rfl, hb7⟩
        · have e2 : bO true b = -1 := rfl
          rw [e2]
          clear e2
          by_cases hmx : m = 9223372036854775807
          · subst hmx
            have e1 : mO true 9223372036854775807 = wrap64 9223372036854775808 := by decide +kernel
            rw [e1]
            clear e1
            go_wp2
            go_ret
            exact ⟨rfl, hb7⟩
          · have e1 : mO true m = m + 1 := by unfold mO mUp; rw [if_pos rfl, if_neg hmx]
            have hm3 : m + 1 ≤ 9223372036854775807 := by omega
            rw [e1]
            clear e1
            go_wp2
            go_ret
            exact ⟨rfl, hb7⟩

end Go.Proofs.Qxb6601609a
