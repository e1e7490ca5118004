/-
  The proof of 'Rows.FnHistoryFaultsPointAtRealPlacesInOrderSaid': the row's frame after the kit's skeleton, the argument's reading and the walk our own.
-/
import Derived.Test.Qxb6601521aHistR
import Derived.Test.Qxb6601521aPlcW
import Derived.WalkKit
import Derived.ProofKit
import Derived.OpenShut
import Derived.ChangeOld
import Derived.Below
namespace Go.Proofs.Qxb6601521a.fnHistoryFaultsPointAtRealPlacesInOrder
open Go.ChangeShapes Go.WideShapes Go.ChangeAt Go.RowKit
set_option linter.unusedVariables false

theorem own : ownKnob Try.prog.godebug = none := by kernel_rfl
theorem laidOut : laidOutB Try.prog = true := by kernel_rfl

set_option maxRecDepth 100000 in
theorem lifted (os : Os) (started : os.Started) (H : Type) (enc : TypeId × Value → H) :
    ReturnsInHanded {} Try.checked os 4 .any (Rows.fnHistoryFaultsPointAtRealPlacesInOrderSpec.pre6 enc Try.prog Try.f4 Rows.fnHistoryFaultsPointAtRealPlacesInOrderRow.domain false) (Rows.fnHistoryFaultsPointAtRealPlacesInOrderSpec.post enc Try.prog Try.f4 false true false false) := by
  refine returnsInHanded_of_change (C := Try.checked) own started (by kernel_rfl) Try.func4
    (ChangeSpec.witness6 (enc := enc) (C := Try.checked) false ⟨#[], #[.slice none 0 0], []⟩ 8 (by kernel_rfl) (by kernel_rfl) (by kernel_rfl) (by kernel_rfl)) ?_
  intro W base args ds gs before hval0 hW hcnd _
  have hval : ∀ (j : Nat) t v, Try.f4.params[j]? = some t → args[j]? = some v → Value.okWide Try.prog W .any base t v := hval0
  have hW' := hW
  obtain ⟨p, q, hA0, hV, rfl, hfz, hnd⟩ := hW
  have hA : DataW.TrodAll enc Try.prog W 0 (fun _ => true) true Try.f4.params.toList args.toList ds p := hA0
  rw [Try.params4] at hA hval
  obtain ⟨v0, d0, rfl, rfl, h0⟩ := trodAll_one hA
  obtain ⟨rfl, rfl⟩ := trodVars_none hV
  obtain ⟨a, n, c, rfl⟩ := okWide_slice Try.underlying22 (hval 0 22 v0 rfl rfl)
  have k0 := h0
  have lt0 : ∀ x ∈ p, x.block < W.heap.size := by obtain ⟨m, hm⟩ := k0; exact DataW.trod_lt m _ _ _ hm
  obtain ⟨M, hn, hMx, hM⟩ : ∃ M, n ≤ maxLen ∧ (∀ i, i < n → (M i).nc ≤ maxLen ∧ (M i).nt ≤ maxLen ∧ (M i).np ≤ maxLen) ∧ HMsgs W a n M := by
    obtain ⟨fuel, hf⟩ := h0
    obtain ⟨a', n', c', M, e, q1, q2, q3⟩ := hmsgs_of hf
    injection e with e1 e2 e3
    subst e1 e2 e3
    exact ⟨M, q1, q2, q3⟩
  clear hA0 hval0
  refine (walk4 a n c M W hn hMx hM).mono fun e W' ⟨he, bel⟩ => ?_
  subst he
  exact ⟨_, rfl, _, _, _, [], _, [], hW', trodAll_mk1 (shut_bool Try.underlying4 _), (trodAll_mk1 (Below.trod laidOut (by kernel_rfl) (of_decide_eq_true (by kernel_rfl)) k0 bel lt0)), rfl, bel.frame _, fun h => by cases h⟩

theorem over : Rows.fnHistoryFaultsPointAtRealPlacesInOrderRow.holds Try.pinned (OpenSpec.ofChange Rows.fnHistoryFaultsPointAtRealPlacesInOrderSpec) :=
  OpenClaim.holds_of_wide 4 Try.f4 rfl rfl rfl rfl rfl rfl rfl ⟨rfl, rfl, rfl, rfl, rfl⟩ rfl rfl rfl rfl rfl (by kernel_rfl) Try.func4 (by kernel_rfl)
    (of_decide_eq_true (by kernel_rfl)) (by unfold Func.isWrapper; first | (rw [if_pos (by decide +kernel)]; kernel_rfl) | (rw [if_neg (by decide +kernel)]; exact ⟨rfl, rfl⟩))
    (fun os started H enc _ => lifted os started H enc)

theorem proved : Rows.FnHistoryFaultsPointAtRealPlacesInOrderSaid := over
#print axioms proved
end Go.Proofs.Qxb6601521a.fnHistoryFaultsPointAtRealPlacesInOrder
