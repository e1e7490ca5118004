/-
  Contracts: zzBlockModel, zzHistoryModel.
-/
import Derived.Test.Qxb6601521aHistM
namespace Go.Proofs.Qxb6601521a
open Go.RowKit Go.Deep

theorem HMsgs.gets {w : World} {b o n : Nat} {M : Nat → Msg} (h : HMsgs w (some ⟨b, o, none⟩) n M) (i : Nat) (hi : i < n) : HMsgAt w b (o + i * 8) (M i) := by
  obtain ⟨b', o', eb, hm⟩ := h.at i hi
  injection eb with eb
  injection eb with eb1 eb2
  subst eb1 eb2
  exact hm

set_option maxRecDepth 100000 in
set_option maxHeartbeats 2000000 in
theorem model26 (base : Nat) (v : Value) (F : List Flt) (a : Option Addr) (n c : Nat) (M : Nat → Msg) (A : Nat) (w0 w : World) (hn : n ≤ 1048576) (hnc : (M A).nc ≤ 1048576) (hA : A < n)
    (hM : HMsgs w0 a n M) (hH : w0.heap.size ≤ base) (hb0 : Below base w0 w) (hbase : base ≤ w.heap.size) (hF : ZFlts w base v F) (hlen : F.length ≤ 2199023255552) :
    Calls Try.prog 26 #[v, .slice a n c, .int .i64 A] w fun e w' => ∃ v', e = .returned v' ∧ Below base w0 w' ∧ base ≤ w'.heap.size ∧ ZFlts w' base v' (F ++ blockF M n A) := by
  obtain ⟨b, o, rfl, hm⟩ := hM.at A hA
  obtain ⟨s1, s7, ff, a2, c2, a5, c5, a6, c6, e0, e1, e2, e3, e4, e5, e6, e7, hcs, _⟩ := hm
  have HM : Hid (HMsgs w0 (some ⟨b, o, none⟩) n M) := hM
  have HCS : Hid (CallsAt w0 a2 (M A).nc (M A).cid) := hcs
  have e2 := cell_ext hH hb0 e2
  have C := end28 (some ⟨b, o, none⟩) n c M A w hn (hM.ext hH hb0) hA
  clear e0 e1 e3 e4 e5 e6 e7 hM hcs
  go_enter Try.func26, Try.ntmps26
  go_wp2_with fail
  refine C.mono ?_; clear C
  rintro e w1 ⟨rfl, hb1'⟩
  have hF1 := hF.later hb1'
  have hb1 := hb0.trans (hb1'.mono hbase)
  have hbase1 := Nat.le_trans hbase hb1'.size
  have htr := toolRun_le M n (A + 1)
  have HBL : Hid (blockF M n A = fltK M A (toolRun M n (A + 1)) ++ missK A (A + 1 + toolRun M n (A + 1)) (ansK M A (toolRun M n (A + 1))) (M A).nc) := rfl
  generalize toolRun M n (A + 1) = T at *
  clear hF hb0 hb1' e2 hbase
  go_wp2_with fail
  go_loopg [0, 9] T (fun gk v t wr => ∃ k : Nat, k ≤ T ∧ T ≤ k + gk ∧ t = .int .i64 ((A : Int) + 1 + k) ∧ Below base w0 wr ∧ base ≤ wr.heap.size ∧ ZFlts wr base v (F ++ fltK M A k))
  case atStart => exact ⟨0, Nat.zero_le _, by omega, by go_num, hb1, hbase1, by simpa [fltK] using hF1⟩
  case round =>
    obtain ⟨k, hk, hgk, rfl, hbr, hzr, hFr⟩ := hrel
    clear hF1 hb1 hbase1
    have hfl := fltK_len M A k
    by_cases hlt : k < T
    · obtain ⟨s1', s7', ff', a2', c2', a5', c5', a6', c6', _, _, _, d3, _⟩ := (HM.out.gets (A + 1 + k) (by omega)).ext hH hbr
      have C := cnt20 a2 (M A).nc c2 (M A).cid (M A).nc (M (A + 1 + k)).tcid wr hnc (Nat.le_refl _) (HCS.out.ext hH hbr)
      have hcl := cntC_le (M A).cid (M (A + 1 + k)).tcid (M A).nc
      go_wp2_with fail
      refine C.mono ?_; clear C
      rintro e w2 ⟨rfl, rfl⟩
      have C := cnt35 (some ⟨b, o, none⟩) n c M ((A : Int) + 1) ((A : Int) + 1 + k) (A + 1) k (M (A + 1 + k)).tcid w2 (by omega) (by omega) hn (HM.out.ext hH hbr) (by omega)
      have hrl := cntR_le M (A + 1) (M (A + 1 + k)).tcid k
      go_wp2_with fail
      refine C.mono ?_; clear C
      rintro e w2 ⟨rfl, rfl⟩
      have hl3 : (F ++ fltK M A k).length ≤ 4398046511103 := by rw [List.length_append]; omega
      have hfc := fltK_count M A k
      by_cases h1 : cntR M (A + 1) (M (A + 1 + k)).tcid k < cntC (M A).cid (M (A + 1 + k)).tcid (M A).nc
      · rw [if_pos h1, List.append_nil] at hfc
        have HFC : Hid (fltK M A (k + 1) = fltK M A k) := hfc
        have hd1 : decide (cntR M (A + 1) (M (A + 1 + k)).tcid k < cntC (M A).cid (M (A + 1 + k)).tcid (M A).nc) = true := by simpa using h1
        clear hfc h1
        go_wp2
        go_roundg (T - (k + 1))
        case measure => omega
        case rel => exact ⟨k + 1, by omega, by omega, by go_num, hbr, hzr, by rw [HFC.out]; exact hFr⟩
      · rw [if_neg h1] at hfc
        have hd1 : decide (cntR M (A + 1) (M (A + 1 + k)).tcid k < cntC (M A).cid (M (A + 1 + k)).tcid (M A).nc) = false := by simpa using h1
        by_cases h2 : 0 < cntC (M A).cid (M (A + 1 + k)).tcid (M A).nc
        · rw [if_pos h2] at hfc
          have HFC : Hid (fltK M A (k + 1) = fltK M A k ++ [⟨2, (A + 1 + k : Nat), A, 0⟩]) := hfc
          have hd2 : decide (0 < cntC (M A).cid (M (A + 1 + k)).tcid (M A).nc) = true := by simpa using h2
          clear hfc h1 h2
          go_wp2_with (at_builtin; refine wpList_append_zflt w2 rfl _ _ rfl base u0 (F ++ fltK M A k) rfl hFr ⟨2, A + 1 + k, A, 0⟩ rfl hl3 hzr ?_; intro g cap w4 hF4 hg4 hgg)
          go_roundg (T - (k + 1))
          case measure => omega
          case rel =>
            have hs := hg4.size
            simp at hs
            refine ⟨k + 1, by omega, by omega, by go_num, (hbr.alloc hzr _).grown hg4 (by simp; omega) (fun k hk => (hFr.lt k hk).1), by omega, ?_⟩
            rw [HFC.out]
            have e : (((A + 1 + k : Nat) : Int)) = (A : Int) + 1 + k := by omega
            rw [e, ← List.append_assoc]
            simpa using hF4
        · rw [if_neg h2] at hfc
          have HFC : Hid (fltK M A (k + 1) = fltK M A k ++ [⟨1, (A + 1 + k : Nat), A, 0⟩]) := hfc
          have hd2 : decide (0 < cntC (M A).cid (M (A + 1 + k)).tcid (M A).nc) = false := by simpa using h2
          clear hfc h1 h2
          go_wp2_with (at_builtin; refine wpList_append_zflt w2 rfl _ _ rfl base u0 (F ++ fltK M A k) rfl hFr ⟨1, A + 1 + k, A, 0⟩ rfl hl3 hzr ?_; intro g cap w4 hF4 hg4 hgg)
          go_roundg (T - (k + 1))
          case measure => omega
          case rel =>
            have hs := hg4.size
            simp at hs
            refine ⟨k + 1, by omega, by omega, by go_num, (hbr.alloc hzr _).grown hg4 (by simp; omega) (fun k hk => (hFr.lt k hk).1), by omega, ?_⟩
            rw [HFC.out]
            have e : (((A + 1 + k : Nat) : Int)) = (A : Int) + 1 + k := by omega
            rw [e, ← List.append_assoc]
            simpa using hF4
    · obtain rfl : k = T := by omega
      have hd : decide ((A : Int) + 1 + k < (A : Int) + 1 + k) = false := by simp
      go_wp2_with fail
      go_loopg [0, 13] (M A).nc (fun gk v t wz => ∃ q : Nat, q ≤ (M A).nc ∧ (M A).nc ≤ q + gk ∧ t = .int .i64 q ∧ Below base w0 wz ∧ base ≤ wz.heap.size ∧ ZFlts wz base v (F ++ fltK M A k ++ missK A (A + 1 + k) (ansK M A k) q))
      case atStart => exact ⟨0, Nat.zero_le _, by omega, rfl, hbr, hzr, by simpa [missK] using hFr⟩
      case round =>
        obtain ⟨q, hq, hgq, rfl, hbz, hzz, hFz⟩ := hrel
        have hml := missK_len A (A + 1 + k) (ansK M A k) q
        by_cases hlq : q < (M A).nc
        · obtain ⟨b2, o2, rfl, hcell⟩ := HCS.out (by omega)
          obtain ⟨x1, x2, x3, g0, _, _, _⟩ := hcell q hlq
          have g0 := cell_ext hH hbz g0
          clear hcell
          have C := cnt20 (some ⟨b2, o2, none⟩) (M A).nc c2 (M A).cid q ((M A).cid q) wr hnc (by omega) (HCS.out.ext hH hbz)
          have hcl := cntC_le (M A).cid ((M A).cid q) q
          go_wp2_with fail
          refine C.mono ?_; clear C
          rintro e w2 ⟨rfl, rfl⟩
          have C := cnt35 (some ⟨b, o, none⟩) n c M ((A : Int) + 1) ((A : Int) + 1 + k) (A + 1) k ((M A).cid q) w2 (by omega) (by omega) hn (HM.out.ext hH hbz) (by omega)
          have hrl := cntR_le M (A + 1) ((M A).cid q) k
          go_wp2_with fail
          refine C.mono ?_; clear C
          rintro e w2 ⟨rfl, rfl⟩
          have hl3 : (F ++ fltK M A k ++ missK A (A + 1 + k) (ansK M A k) q).length ≤ 4398046511103 := by rw [List.length_append, List.length_append]; omega
          have hfc := missK_count M A k (A + 1 + k) q hlq
          by_cases h1 : cntR M (A + 1) ((M A).cid q) k ≤ cntC (M A).cid ((M A).cid q) q
          · rw [if_pos h1] at hfc
            have HFC : Hid (missK A (A + 1 + k) (ansK M A k) (q + 1) = missK A (A + 1 + k) (ansK M A k) q ++ [⟨3, (A + 1 + k : Nat), A, q⟩]) := hfc
            have hd1 : decide (cntR M (A + 1) ((M A).cid q) k ≤ cntC (M A).cid ((M A).cid q) q) = true := by simpa using h1
            clear hfc h1
            go_wp2_with (at_builtin; refine wpList_append_zflt w2 rfl _ _ rfl base u0 (F ++ fltK M A k ++ missK A (A + 1 + k) (ansK M A k) q) rfl hFz ⟨3, A + 1 + k, A, q⟩ rfl hl3 hzz ?_; intro g cap w4 hF4 hg4 hgg)
            go_roundg ((M A).nc - (q + 1))
            case measure => omega
            case rel =>
              have hs := hg4.size
              simp at hs
              refine ⟨q + 1, by omega, by omega, by go_num, (hbz.alloc hzz _).grown hg4 (by simp; omega) (fun k hk => (hFz.lt k hk).1), by omega, ?_⟩
              rw [HFC.out]
              have e : (((A + 1 + k : Nat) : Int)) = (A : Int) + 1 + k := by omega
              rw [e, ← List.append_assoc]
              simpa [Nat.add_assoc] using hF4
          · rw [if_neg h1, List.append_nil] at hfc
            have HFC : Hid (missK A (A + 1 + k) (ansK M A k) (q + 1) = missK A (A + 1 + k) (ansK M A k) q) := hfc
            have hd1 : decide (cntR M (A + 1) ((M A).cid q) k ≤ cntC (M A).cid ((M A).cid q) q) = false := by simpa using h1
            clear hfc h1
            go_wp2
            go_roundg ((M A).nc - (q + 1))
            case measure => omega
            case rel => exact ⟨q + 1, by omega, by omega, by go_num, hbz, hzz, by rw [HFC.out]; exact hFz⟩
        · obtain rfl : q = (M A).nc := by omega
          have hd2 : decide (((M A).nc : Int) < ((M A).nc : Int)) = false := by simp
          go_wp2
          go_ret
          exact ⟨_, rfl, hbz, hzz, by rw [HBL.out, ← List.append_assoc]; exact hFz⟩

end Go.Proofs.Qxb6601521a
