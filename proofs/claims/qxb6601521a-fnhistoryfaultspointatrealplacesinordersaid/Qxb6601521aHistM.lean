/-
  Contracts: zzAllTools, zzCountCallID, zzCountResultID, zzBlockEnd.
-/
import Derived.Test.Qxb6601521aPlaC
import Derived.Test.Qxb6601521aHistZ
namespace Go.Proofs.Qxb6601521a
open Go.RowKit Go.Deep

/-- the eight cells of the message at i -/
theorem HMsgs.at {w : World} {a : Option Addr} {n : Nat} {M : Nat → Msg} (h : HMsgs w a n M) (i : Nat) (hi : i < n) : ∃ b o, a = some ⟨b, o, none⟩ ∧ HMsgAt w b (o + i * 8) (M i) := by
  obtain ⟨b, o, ha, hc⟩ := h.2 (by omega)
  exact ⟨b, o, ha, hc i hi⟩

set_option maxHeartbeats 1000000 in
theorem allTools19 (a : Option Addr) (n c : Nat) (M : Nat → Msg) (lo hi : Int) (L d : Nat) (w : World) (hlo : lo = L) (hhi : hi = L + d) (hn : n ≤ 1048576) (hM : HMsgs w a n M) (hd : L + d ≤ n) (hall : ∀ t, t < d → toolB (M (L + t)).role = true) :
    Calls Try.prog 19 #[.slice a n c, .int .i64 lo, .int .i64 hi] w fun e w' => e = .returned (.bool true) ∧ Below w.heap.size w w' := by
  subst hlo hhi
  have HM : Hid (HMsgs w a n M) := hM
  have HA : Hid (∀ t, t < d → toolB (M (L + t)).role = true) := hall
  clear hM hall
  go_enter Try.func19, Try.ntmps19
  go_wp2
  go_loopw [7] (fun t wr => ∃ k : Nat, k ≤ d ∧ t = .int .i64 ((L : Int) + k) ∧ Below w.heap.size w wr) (fun t _ => L + d - (intOf t).toNat)
  case atStart => exact ⟨0, Nat.zero_le _, by go_num, Below.refl _ _⟩
  case round =>
    obtain ⟨k, hk, rfl, hb⟩ := hrel
    by_cases hlt : k < d
    · obtain ⟨b, o, rfl, hm⟩ := (HM.out.ext (Nat.le_refl _) hb).at (L + k) (by omega)
      obtain ⟨s1, s7, ff, a2, c2, a5, c5, a6, c6, e0, e1, e2, e3, e4, e5, e6, e7, _⟩ := hm
      have ht := HA.out k hlt
      go_wp2_with fail
      have C := isTool17 (M (L + k)).role s1 (M (L + k)).tcid s7 ff a2 a5 a6 (M (L + k)).nc (M (L + k)).nt (M (L + k)).np c2 c5 c6 wr
      refine C.mono ?_; clear C
      rintro e w1 ⟨rfl, hb1⟩
      have hb2 := hb.trans (hb1.mono hb.size)
      go_wp2
      go_roundw
      case rel => exact ⟨k + 1, by omega, by go_num, hb2⟩
      case measure => simp [intOf]; omega
    · go_wp2
      go_ret
      exact ⟨rfl, hb⟩

set_option maxHeartbeats 1000000 in
theorem cnt20 (a : Option Addr) (n c : Nat) (cid : Nat → ByteArray) (up : Nat) (s : ByteArray) (w : World) (hn : n ≤ 1048576) (hup : up ≤ n) (hcs : CallsAt w a n cid) :
    Calls Try.prog 20 #[.slice a n c, .int .i64 up, .string s] w fun e w' => e = .returned (.int .i64 (cntC cid s up)) ∧ w' = w := by
  have HC : Hid (CallsAt w a n cid) := hcs
  clear hcs
  go_enter Try.func20, Try.ntmps20
  go_wp2
  go_loopw [7, 8] (fun v t wr => ∃ k : Nat, k ≤ up ∧ t = .int .i64 k ∧ v = .int .i64 (cntC cid s k) ∧ wr = w) (fun _ t _ => up - (intOf t).toNat)
  case atStart => exact ⟨0, Nat.zero_le _, rfl, rfl, rfl⟩
  case round =>
    obtain ⟨k, hk, rfl, rfl, rfl⟩ := hrel
    have hle := cntC_le cid s k
    by_cases hlt : k < up
    · obtain ⟨b, o, rfl, hcell⟩ := HC.out (by omega)
      obtain ⟨s1, s2, s3, e0, e1, e2, e3⟩ := hcell k (by omega)
      clear hcell
      cases hq : eqB (cid k) s
      · have hd : ((cid k).toList == s.toList) = false := hq
        have HE : Hid (cntC cid s (k + 1) = cntC cid s k) := by show _ = _; rw [cntC, hq]; rfl
        clear hq
        go_wp2
        go_roundw
        case rel => exact ⟨k + 1, by omega, by go_num, by rw [HE.out], by first | rfl | trivial⟩
        case measure => simp [intOf]; omega
      · have hd : ((cid k).toList == s.toList) = true := hq
        have HE : Hid (cntC cid s (k + 1) = cntC cid s k + 1) := by show _ = _; rw [cntC, hq]; rfl
        clear hq
        go_wp2
        go_roundw
        case rel => exact ⟨k + 1, by omega, by go_num, by rw [HE.out]; rfl, by first | rfl | trivial⟩
        case measure => simp [intOf]; omega
    · have : k = up := by omega
      subst this
      go_wp2
      go_ret
      exact ⟨rfl, rfl⟩

set_option maxHeartbeats 1000000 in
theorem cnt35 (a : Option Addr) (n c : Nat) (M : Nat → Msg) (lo hi : Int) (L d : Nat) (s : ByteArray) (w : World) (hlo : lo = L) (hhi : hi = L + d) (hn : n ≤ 1048576) (hM : HMsgs w a n M) (hd : L + d ≤ n) :
    Calls Try.prog 35 #[.slice a n c, .int .i64 lo, .int .i64 hi, .string s] w fun e w' => e = .returned (.int .i64 (cntR M L s d)) ∧ w' = w := by
  subst hlo hhi
  have HM : Hid (HMsgs w a n M) := hM
  clear hM
  go_enter Try.func35, Try.ntmps35
  go_wp2
  go_loopw [9, 10] (fun v t wr => ∃ k : Nat, k ≤ d ∧ t = .int .i64 ((L : Int) + k) ∧ v = .int .i64 (cntR M L s k) ∧ wr = w) (fun _ t _ => L + d - (intOf t).toNat)
  case atStart => exact ⟨0, Nat.zero_le _, by go_num, rfl, rfl⟩
  case round =>
    obtain ⟨k, hk, rfl, rfl, rfl⟩ := hrel
    have hle := cntR_le M L s k
    by_cases hlt : k < d
    · obtain ⟨b, o, rfl, hm⟩ := HM.out.at (L + k) (by omega)
      obtain ⟨s1, s7, ff, a2, c2, a5, c5, a6, c6, e0, e1, e2, e3, e4, e5, e6, e7, _⟩ := hm
      cases hq : eqB (M (L + k)).tcid s
      · have hd' : ((M (L + k)).tcid.toList == s.toList) = false := hq
        have HE : Hid (cntR M L s (k + 1) = cntR M L s k) := by show _ = _; rw [cntR, hq]; rfl
        clear hq
        go_wp2
        go_roundw
        case rel => exact ⟨k + 1, by omega, by go_num, by rw [HE.out], by first | rfl | trivial⟩
        case measure => simp [intOf]; omega
      · have hd' : ((M (L + k)).tcid.toList == s.toList) = true := hq
        have HE : Hid (cntR M L s (k + 1) = cntR M L s k + 1) := by show _ = _; rw [cntR, hq]; rfl
        clear hq
        go_wp2
        go_roundw
        case rel => exact ⟨k + 1, by omega, by go_num, by rw [HE.out]; rfl, by first | rfl | trivial⟩
        case measure => simp [intOf]; omega
    · have : k = d := by omega
      subst this
      go_wp2
      go_ret
      exact ⟨rfl, rfl⟩

set_option maxHeartbeats 1000000 in
theorem end28 (a : Option Addr) (n c : Nat) (M : Nat → Msg) (A : Nat) (w : World) (hn : n ≤ 1048576) (hM : HMsgs w a n M) (hA : A < n) :
    Calls Try.prog 28 #[.slice a n c, .int .i64 A] w fun e w' => e = .returned (.int .i64 ((A : Int) + 1 + toolRun M n (A + 1))) ∧ Below w.heap.size w w' := by
  have HM : Hid (HMsgs w a n M) := hM
  clear hM
  go_enter Try.func28, Try.ntmps28
  go_wp2
  go_loopw [5] (fun t wr => ∃ k : Nat, A + 1 + k ≤ n ∧ t = .int .i64 ((A : Int) + 1 + k) ∧ Hid (∀ t, t < k → toolB (M (A + 1 + t)).role = true) ∧ Below w.heap.size w wr) (fun t _ => n - (intOf t).toNat)
  case atStart => exact ⟨0, by omega, by go_num, (fun t ht => by omega), Below.refl _ _⟩
  case round =>
    obtain ⟨k, hk, rfl, hall, hb⟩ := hrel
    by_cases hlt : A + 1 + k < n
    · obtain ⟨b, o, rfl, hm⟩ := (HM.out.ext (Nat.le_refl _) hb).at (A + 1 + k) (by omega)
      obtain ⟨s1, s7, ff, a2, c2, a5, c5, a6, c6, e0, e1, e2, e3, e4, e5, e6, e7, _⟩ := hm
      go_wp2_with fail
      have C := isTool17 (M (A + 1 + k)).role s1 (M (A + 1 + k)).tcid s7 ff a2 a5 a6 (M (A + 1 + k)).nc (M (A + 1 + k)).nt (M (A + 1 + k)).np c2 c5 c6 wr
      refine C.mono ?_; clear C
      rintro e w1 ⟨rfl, hb1⟩
      have hb2 := hb.trans (hb1.mono hb.size)
      cases ht : toolB (M (A + 1 + k)).role
      · have HT : Hid (toolRun M n (A + 1) = k) := toolRun_eq hk hall.out fun _ => ht
        clear ht
        go_wp2
        go_ret
        exact ⟨by rw [HT.out]; rfl, hb2⟩
      · have HT : Hid (toolB (M (A + 1 + k)).role = true) := ht
        clear ht
        go_wp2
        go_roundw
        case rel => exact ⟨k + 1, by omega, by go_num, (fun t htt => by
                      by_cases e : t = k
                      · subst e; exact HT.out
                      · exact hall.out t (by omega)), hb2⟩
        case measure => simp [intOf]; omega
    · have HT : Hid (toolRun M n (A + 1) = k) := toolRun_eq hk hall.out fun h => absurd h hlt
      go_wp2
      go_ret
      exact ⟨by rw [HT.out]; rfl, hb⟩

end Go.Proofs.Qxb6601521a
