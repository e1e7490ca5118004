/-
  The contract of bytes16: it answers a bool and leaves the world as it was.
-/
import Derived.Test.Qxb6601521aBase
namespace Go.Proofs.Qxb6601521a
open Go.RowKit Go.Deep

set_option maxRecDepth 100000 in
set_option maxHeartbeats 4000000 in
theorem bytes16 (a : Option Addr) (n c : Nat) (M : Nat → Msg) (w : World) (hM : HMsgs w a n M) :
    Calls Try.prog 16 #[.slice a n c] w fun e w' => AnsB e ∧ w' = w := by
  go_enter Try.func16, Try.ntmps16
  go_wp2
  all_goals first | (go_ret; exact ⟨⟨_, rfl⟩, rfl⟩) | skip
  go_loop [3, 4] (fun t u => ∃ (i : Nat) (T : Int), i ≤ n ∧ u = .int .i64 i ∧ t = .int .i64 T ∧ 0 ≤ T ∧ T ≤ 1048576) (fun _ u => n - (intOf u).toNat)
  case atStart => exact ⟨0, _, Nat.zero_le _, rfl, rfl, by omega, by omega⟩
  case round =>
    obtain ⟨i, T, hi, rfl, rfl, hTa, hTb⟩ := hrel
    by_cases hlt : i < n
    · obtain ⟨b, o, rfl, hmsg⟩ := hM.2 (by omega)
      obtain ⟨s1, s7, ff, a2, c2, a5, c5, a6, c6, e0, e1, e2, e3, e4, e5, e6, e7, hcs, hc0, ht, hp⟩ := hmsg i hlt
      clear hmsg hM hc0
      as_aux_lemma =>
       go_wp2
       all_goals first | (go_ret; exact ⟨⟨_, rfl⟩, rfl⟩) | skip
       go_loop [3, 5] (fun t u => ∃ (j : Nat) (T2 : Int), j ≤ (M i).nc ∧ u = .int .i64 j ∧ t = .int .i64 T2 ∧ 0 ≤ T2 ∧ T2 ≤ 1048576) (fun _ u => (M i).nc - (intOf u).toNat)
       case atStart => exact ⟨0, _, Nat.zero_le _, rfl, rfl, by omega, by omega⟩
       case round =>
         obtain ⟨j, T2, hj, rfl, rfl, hT1, hT2⟩ := hrel
         by_cases hlj : j < (M i).nc
         · obtain ⟨b2, o2, rfl, hcc⟩ := hcs (by omega)
           obtain ⟨r1, r2, r3, g0, g1, g2, g3⟩ := hcc j hlj
           clear hcc
           as_aux_lemma =>
            go_wp2
            all_goals first | (go_ret; exact ⟨⟨_, rfl⟩, rfl⟩) | (go_round; (case rel => exact ⟨j + 1, _, by omega, by go_num, rfl, by omega, by omega⟩); (case measure => simp [intOf]; omega))
         · clear hj
           as_aux_lemma =>
            go_wp2
            all_goals first | (go_ret; exact ⟨⟨_, rfl⟩, rfl⟩) | skip
            go_loop [3, 6] (fun t u => ∃ (j : Nat) (T3 : Int), j ≤ (M i).nt ∧ u = .int .i64 j ∧ t = .int .i64 T3 ∧ 0 ≤ T3 ∧ T3 ≤ 1048576) (fun _ u => (M i).nt - (intOf u).toNat)
            case atStart => exact ⟨0, _, Nat.zero_le _, rfl, rfl, by omega, by omega⟩
            case round =>
              obtain ⟨j, T3, hj, rfl, rfl, hT1, hT2⟩ := hrel
              by_cases hlj : j < (M i).nt
              · obtain ⟨b2, o2, rfl, hcc⟩ := ht.2 (by omega)
                obtain ⟨r0, g0⟩ := hcc j hlj 0 (by omega)
                rw [Nat.add_zero] at g0
                obtain ⟨r1, g1⟩ := hcc j hlj 1 (by omega)
                obtain ⟨r2, g2⟩ := hcc j hlj 2 (by omega)
                clear hcc
                as_aux_lemma =>
                 go_wp2
                 all_goals first | (go_ret; exact ⟨⟨_, rfl⟩, rfl⟩) | (go_round; (case rel => exact ⟨j + 1, _, by omega, by go_num, rfl, by omega, by omega⟩); (case measure => simp [intOf]; omega))
              · clear hj
                as_aux_lemma =>
                 go_wp2
                 all_goals first | (go_ret; exact ⟨⟨_, rfl⟩, rfl⟩) | skip
                 go_loop [3, 7] (fun t u => ∃ (j : Nat) (T4 : Int), j ≤ (M i).np ∧ u = .int .i64 j ∧ t = .int .i64 T4 ∧ 0 ≤ T4 ∧ T4 ≤ 1048576) (fun _ u => (M i).np - (intOf u).toNat)
                 case atStart => exact ⟨0, _, Nat.zero_le _, rfl, rfl, by omega, by omega⟩
                 case round =>
                   obtain ⟨j, T4, hj, rfl, rfl, hT1, hT2⟩ := hrel
                   by_cases hlj : j < (M i).np
                   · obtain ⟨b2, o2, rfl, hcc⟩ := hp.2 (by omega)
                     obtain ⟨r0, g0⟩ := hcc j hlj 0 (by omega)
                     rw [Nat.add_zero] at g0
                     obtain ⟨r1, g1⟩ := hcc j hlj 1 (by omega)
                     clear hcc
                     as_aux_lemma =>
                      go_wp2
                      all_goals first | (go_ret; exact ⟨⟨_, rfl⟩, rfl⟩) | (go_round; (case rel => exact ⟨j + 1, _, by omega, by go_num, rfl, by omega, by omega⟩); (case measure => simp [intOf]; omega))
                   · clear hj
                     as_aux_lemma =>
                      go_wp2
                      all_goals first | (go_ret; exact ⟨⟨_, rfl⟩, rfl⟩) | (go_round; (case rel => exact ⟨i + 1, _, by omega, by go_num, rfl, by omega, by omega⟩); (case measure => simp [intOf]; omega))
    · go_wp2
      go_ret
      exact ⟨⟨_, rfl⟩, rfl⟩

end Go.Proofs.Qxb6601521a
