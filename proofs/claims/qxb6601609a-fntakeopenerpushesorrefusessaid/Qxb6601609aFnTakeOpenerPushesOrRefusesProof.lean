/-
  The proof of 'Rows.FnTakeOpenerPushesOrRefusesSaid': the row's frame after the kit's skeleton, the arguments' reading and the walk our own.
-/
import Derived.Test.Qxb6601609aRows
import Derived.WalkKit
import Derived.ProofKit
import Derived.OpenShut
import Derived.ShutString
import Derived.ChangeOld
import Derived.Below
import Derived.Deep.Grids
import Derived.Test.Qxb6601609aTakE
namespace Go.Proofs.Qxb6601609a.fnTakeOpenerPushesOrRefuses
open Go.ChangeShapes Go.WideShapes Go.ChangeAt Go.RowKit Go.Deep
set_option linter.unusedVariables false

theorem own : ownKnob Try.prog.godebug = none := by kernel_rfl
theorem laidOut : laidOutB Try.prog = true := by kernel_rfl

/-- a slice of bytes that came in -/
theorem bytes_of {H : Type} {enc : TypeId × Value → H} {W : World} {a : Option Addr} {len cap : Nat} {x : DataW H × List MemPlace} {fuel : Nat} {cs : List Value} (hcs0 : cs = [.slice a len cap])
    (h : DataW.trod enc Try.prog W 0 (fun _ => true) true fuel 24 cs = some x) : ∃ z, len ≤ 9223372036854775807 ∧ (a = none → len = 0) ∧ At W a len (u8s z) := by
  subst hcs0
  rcases open_ints Try.underlying24 Try.underlying5 (by kernel_rfl) h with ⟨hcs, _⟩ | ⟨x, l, c, zs, hcs, _, hl, hm, hz, _, hcell, hwz⟩
  · simp at hcs
    obtain ⟨rfl, rfl, rfl⟩ := hcs
    exact ⟨fun _ => 0, by omega, fun _ => rfl, fun h => by omega⟩
  · simp at hcs
    obtain ⟨rfl, rfl, rfl⟩ := hcs
    refine ⟨fun i => zs.getD i 0, by unfold maxLen at hm; omega, (fun h => by cases h), fun h0 => ?_⟩
    have hzl : zs.length = cap := by simpa using hz
    obtain ⟨b, off, rfl, hc⟩ := ints_at hcell (by omega)
    exact ⟨b, off, rfl, fun i hi => hc i (by omega)⟩
/-- a slice of bools that came in -/
theorem bools_of {H : Type} {enc : TypeId × Value → H} {W : World} {a : Option Addr} {len cap : Nat} {x : DataW H × List MemPlace} {fuel : Nat} {cs : List Value} (hcs0 : cs = [.slice a len cap])
    (h : DataW.trod enc Try.prog W 0 (fun _ => true) true fuel 32 cs = some x) : ∃ q, len ≤ 9223372036854775807 ∧ (a = none → len = 0) ∧ At W a len (bos q) := by
  subst hcs0
  rcases open_bools Try.underlying32 Try.underlying4 (by kernel_rfl) h with ⟨hcs, _⟩ | ⟨x, l, c, B, hcs, _, hl, hm, _, hcell⟩
  · simp at hcs
    obtain ⟨rfl, rfl, rfl⟩ := hcs
    exact ⟨fun _ => false, by omega, fun _ => rfl, fun h => by omega⟩
  · simp at hcs
    obtain ⟨rfl, rfl, rfl⟩ := hcs
    refine ⟨B, by unfold maxLen at hm; omega, (fun h => by cases h), fun h0 => ?_⟩
    obtain ⟨b, off, spot⟩ := x
    have hspot : spot = none := by simpa [Addr.add] using World.cell?_spot (hcell 0 (by omega))
    subst hspot
    exact ⟨b, off, rfl, fun i hi => by rw [← Go.WideShapes.add_plain]; exact hcell i (by omega)⟩

set_option maxRecDepth 100000 in
theorem lifted (os : Os) (started : os.Started) (H : Type) (enc : TypeId × Value → H) :
    ReturnsInHanded {} Try.checked os 8 .any (Rows.fnTakeOpenerPushesOrRefusesSpec.pre6 enc Try.prog Try.f8 Rows.fnTakeOpenerPushesOrRefusesRow.domain false) (Rows.fnTakeOpenerPushesOrRefusesSpec.post enc Try.prog Try.f8 false true false false) := by
  refine returnsInHanded_of_change (C := Try.checked) own started (by kernel_rfl) Try.func8
    (ChangeSpec.witness6 (enc := enc) (C := Try.checked) false ⟨#[], #[.slice none 0 0, .slice none 0 0, .slice none 0 0, .int .i64 0, .int .i64 0, .int .i64 0, .int .i64 0, .int .i64 0, .int .i64 0, .int .i64 0], []⟩ 8 (by kernel_rfl) (by kernel_rfl) (by kernel_rfl) (by kernel_rfl)) ?_
  intro W base args ds gs before hval0 hW hcnd _
  have hval : ∀ (j : Nat) t v, Try.f8.params[j]? = some t → args[j]? = some v → Value.okWide Try.prog W .any base t v := hval0
  have hW' := hW
  obtain ⟨p, q, hA0, hV, rfl, hfz, hnd⟩ := hW
  have hA : DataW.TrodAll enc Try.prog W 0 (fun _ => true) true Try.f8.params.toList args.toList ds p := hA0
  rw [Try.params8] at hA hval
  obtain ⟨v0, vs0, d0, ds0, p0, q0, hargs, rfl, rfl, h0, r0⟩ := trodAll_cons hA
  obtain ⟨v1, vs1, d1, ds1, p1, q1, rfl, rfl, rfl, h1, r1⟩ := trodAll_cons r0
  obtain ⟨v2, vs2, d2, ds2, p2, q2, rfl, rfl, rfl, h2, r2⟩ := trodAll_cons r1
  obtain ⟨v3, vs3, d3, ds3, p3, q3, rfl, rfl, rfl, h3, r3⟩ := trodAll_cons r2
  obtain ⟨v4, vs4, d4, ds4, p4, q4, rfl, rfl, rfl, h4, r4⟩ := trodAll_cons r3
  obtain ⟨v5, vs5, d5, ds5, p5, q5, rfl, rfl, rfl, h5, r5⟩ := trodAll_cons r4
  obtain ⟨v6, vs6, d6, ds6, p6, q6, rfl, rfl, rfl, h6, r6⟩ := trodAll_cons r5
  obtain ⟨v7, vs7, d7, ds7, p7, q7, rfl, rfl, rfl, h7, r7⟩ := trodAll_cons r6
  obtain ⟨v8, vs8, d8, ds8, p8, q8, rfl, rfl, rfl, h8, r8⟩ := trodAll_cons r7
  obtain ⟨v9, vs9, d9, ds9, p9, q9, rfl, rfl, rfl, h9, r9⟩ := trodAll_cons r8
  obtain ⟨rfl, rfl, rfl⟩ := trodAll_nil r9
  obtain rfl : args = #[v0, v1, v2, v3, v4, v5, v6, v7, v8, v9] := by cases args; simp_all
  obtain ⟨rfl, rfl⟩ := trodVars_none hV
  obtain ⟨a0, len0, cap0, rfl⟩ := okWide_slice Try.underlying24 (hval 0 24 v0 rfl rfl)
  have k0 := h0
  have lt0 : ∀ x ∈ p0, x.block < W.heap.size := by obtain ⟨m, hm⟩ := k0; exact DataW.trod_lt m _ _ _ hm
  obtain ⟨z0, l0, n0, A0⟩ : ∃ z, len0 ≤ 9223372036854775807 ∧ (a0 = none → len0 = 0) ∧ At W a0 len0 (u8s z) := by
    obtain ⟨fuel, hf⟩ := h0
    exact bytes_of (a := a0) (len := len0) (cap := cap0) (by simp [Value.cells]) hf
  obtain ⟨a1, len1, cap1, rfl⟩ := okWide_slice Try.underlying24 (hval 1 24 v1 rfl rfl)
  have k1 := h1
  have lt1 : ∀ x ∈ p1, x.block < W.heap.size := by obtain ⟨m, hm⟩ := k1; exact DataW.trod_lt m _ _ _ hm
  obtain ⟨z1, l1, n1, A1⟩ : ∃ z, len1 ≤ 9223372036854775807 ∧ (a1 = none → len1 = 0) ∧ At W a1 len1 (u8s z) := by
    obtain ⟨fuel, hf⟩ := h1
    exact bytes_of (a := a1) (len := len1) (cap := cap1) (by simp [Value.cells]) hf
  obtain ⟨a2, len2, cap2, rfl⟩ := okWide_slice Try.underlying32 (hval 2 32 v2 rfl rfl)
  have k2 := h2
  have lt2 : ∀ x ∈ p2, x.block < W.heap.size := by obtain ⟨m, hm⟩ := k2; exact DataW.trod_lt m _ _ _ hm
  obtain ⟨z2, l2, n2, A2⟩ : ∃ z, len2 ≤ 9223372036854775807 ∧ (a2 = none → len2 = 0) ∧ At W a2 len2 (bos z) := by
    obtain ⟨fuel, hf⟩ := h2
    exact bools_of (a := a2) (len := len2) (cap := cap2) (by simp [Value.cells]) hf
  obtain ⟨a3, rfl, rfl, rfl, w3⟩ := open_int Try.underlying3 (hval 3 3 v3 rfl rfl) h3
  obtain ⟨a4, rfl, rfl, rfl, w4⟩ := open_int Try.underlying3 (hval 4 3 v4 rfl rfl) h4
  obtain ⟨a5, rfl, rfl, rfl, w5⟩ := open_int Try.underlying3 (hval 5 3 v5 rfl rfl) h5
  obtain ⟨a6, rfl, rfl, rfl, w6⟩ := open_int Try.underlying3 (hval 6 3 v6 rfl rfl) h6
  obtain ⟨a7, rfl, rfl, rfl, w7⟩ := open_int Try.underlying3 (hval 7 3 v7 rfl rfl) h7
  obtain ⟨a8, rfl, rfl, rfl, w8⟩ := open_int Try.underlying3 (hval 8 3 v8 rfl rfl) h8
  obtain ⟨a9, rfl, rfl, rfl, w9⟩ := open_int Try.underlying3 (hval 9 3 v9 rfl rfl) h9
  clear hA0 hval0
  refine (walk8 a0 a1 a2 len0 len1 len2 cap0 cap1 cap2 z0 z1 z2 a3 a4 a5 a6 a7 a8 a9 W l0 l1 l2 n0 n1 n2 A0 A1 A2 (bounds_i64 w3).1 (bounds_i64 w3).2 (bounds_i64 w8).1 (bounds_i64 w8).2 (bounds_i64 w9).1 (bounds_i64 w9).2).mono fun e W' ⟨he, bel⟩ => ?_
  subst he
  exact ⟨_, rfl, _, _, _, [], _, [], hW', trodAll_mk1 (shut_bool Try.underlying4 _), (trodAll_cons_mk (Below.trod laidOut (by kernel_rfl) (of_decide_eq_true (by kernel_rfl)) k0 bel lt0) (trodAll_cons_mk (Below.trod laidOut (by kernel_rfl) (of_decide_eq_true (by kernel_rfl)) k1 bel lt1) (trodAll_cons_mk (Below.trod laidOut (by kernel_rfl) (of_decide_eq_true (by kernel_rfl)) k2 bel lt2) (trodAll_cons_mk (shut_int Try.underlying3 w3) (trodAll_cons_mk (shut_int Try.underlying3 w4) (trodAll_cons_mk (shut_int Try.underlying3 w5) (trodAll_cons_mk (shut_int Try.underlying3 w6) (trodAll_cons_mk (shut_int Try.underlying3 w7) (trodAll_cons_mk (shut_int Try.underlying3 w8) (trodAll_cons_mk (shut_int Try.underlying3 w9) trodAll_mk0)))))))))), rfl, bel.frame _, fun h => by cases h⟩

theorem over : Rows.fnTakeOpenerPushesOrRefusesRow.holds Try.pinned (OpenSpec.ofChange Rows.fnTakeOpenerPushesOrRefusesSpec) :=
  OpenClaim.holds_of_wide 8 Try.f8 rfl rfl rfl rfl rfl rfl rfl ⟨rfl, rfl, rfl, rfl, rfl⟩ rfl rfl rfl rfl rfl (by kernel_rfl) Try.func8 (by kernel_rfl)
    (of_decide_eq_true (by kernel_rfl)) (by unfold Func.isWrapper; first | (rw [if_pos (by decide +kernel)]; kernel_rfl) | (rw [if_neg (by decide +kernel)]; exact ⟨rfl, rfl⟩))
    (fun os started H enc _ => lifted os started H enc)

theorem proved : Rows.FnTakeOpenerPushesOrRefusesSaid := over
#print axioms proved
end Go.Proofs.Qxb6601609a.fnTakeOpenerPushesOrRefuses
