/-
  The append law for faults; the contract of resultFaults.
-/
import Derived.Test.Qxb6601521aHistP
import Derived.Deep.AppendLies
namespace Go.Proofs.Qxb6601521a
open Go.RowKit Go.Deep

theorem Try.info61 : (Try.prog.info? 61).map (fun i => (i.zero, i.size, i.bytes)) = some (some (.agg #[.int .i64 0, .int .i64 0, .int .i64 0, .int .i64 0]), 4, 32) := by kernel_rfl
theorem Try.info4 : (Try.prog.info? 4).map (fun i => (i.zero, i.size, i.bytes)) = some (some (.bool false), 1, 1) := by kernel_rfl

/-- the cells of faults -/
def fcell (f : Flt) : List Value := [.int .i64 f.kind, .int .i64 f.at_, .int .i64 f.asked, .int .i64 f.call]
def fcells (F : List Flt) : List Value := F.flatMap fcell

/-- the slice v of the call's own (from block base on) holds the faults F; it is nil where there is none -/
def Flts (w : World) (base : Nat) (v : Value) (F : List Flt) : Prop := w.ownsRow base 61 4 v F.length (fcells F) ∧ (F = [] → v = .slice none 0 0)

theorem Flts.nil (w : World) (base : Nat) : Flts w base (.slice none 0 0) [] := ⟨World.ownsRow_nil _ _ _ _, fun _ => rfl⟩
theorem Flts.kept {w w' : World} {base : Nat} {v : Value} {F : List Flt} (h : Flts w base v F) (hb : ∀ k, v.ownBlock = some k → w'.heap[k]? = w.heap[k]?) : Flts w' base v F := by
  refine ⟨⟨h.1.1, ?_⟩, h.2⟩
  rcases h.1.2 with h0 | ⟨g, cap, cur, hv, hg, hh, r⟩
  · exact .inl h0
  · exact .inr ⟨g, cap, cur, hv, hg, by rw [hb g (by rw [hv]; rfl)]; exact hh, r⟩
theorem Flts.alloc {w : World} {base : Nat} {v : Value} {F : List Flt} (h : Flts w base v F) (o : Obj) : Flts (w.alloc o) base v F := ⟨h.1.alloc o, h.2⟩
theorem Flts.lt {w : World} {base : Nat} {v : Value} {F : List Flt} (h : Flts w base v F) : ∀ k, v.ownBlock = some k → base ≤ k ∧ k < w.heap.size := h.1.lt
/-- behind a call that leaves all below its own start as it was -/
theorem Flts.later {w w' : World} {base : Nat} {v : Value} {F : List Flt} (h : Flts w base v F) (hb : Below w.heap.size w w') : Flts w' base v F := h.kept fun k hk => hb.block k (h.lt k hk).2

theorem wpList_append_flt (w : World) {ops : Array Oper} {rest : List Oper} {o : Oper} {a : Act} {Q : Exit → Act → World → Prop} (hgd : o.guard = none) (s x : Operand)
    (ho : o.op = .call { callee := .builtin .append, args := #[s, x], argTypes := #[27, 27] })
    (base : Nat) (v : Value) (F : List Flt) (hs : a.eval s = v) (hF : Flts w base v F) (f : Flt) (hx : a.eval x = .slice (some ⟨w.heap.size, 0, none⟩) 1 1)
    (hlen : F.length ≤ 4398046511103) (hbase : base ≤ w.heap.size)
    (h : ∀ g cap w', Flts w' base (.slice (some ⟨g, 0, none⟩) (F.length + 1) cap) (F ++ [f]) → (w.alloc (.cells #[.int .i64 f.kind, .int .i64 f.at_, .int .i64 f.asked, .int .i64 f.call] 61)).grownBy w' v.ownBlock →
      (v.ownBlock = some g ∨ g = w.heap.size + 1) → wpList Try.prog ops Q rest (a.put o.dst (.slice (some ⟨g, 0, none⟩) (F.length + 1) cap)) w') :
    wpList Try.prog ops Q (o :: rest) a (w.alloc (.cells #[.int .i64 f.kind, .int .i64 f.at_, .int .i64 f.asked, .int .i64 f.call] 61)) := by
  obtain ⟨i, hi, hz0, hz1, hz2⟩ := info_parts Try.info61
  refine wpList_append_lies _ hgd s x 27 ho base 61 i _ 4 32 Try.underlying27 hi hz0 hz1 hz2 rfl (by decide) v F.length (fcells F) hs (hF.1.alloc _) ⟨w.heap.size, 0, none⟩ 1 1 (fcell f) hx rfl
    (World.news_of_block (blk_alloc_new _ _)) ?_ (by decide) (by unfold maxLen; omega) (by omega) (by simp; omega) (w.heap.size + 1) (by simp) ?_
  · intro u hu
    simp [fcell] at hu
    rcases hu with h | h | h | h <;> subst h <;> rfl
  · intro g cap w' h1 h2 h3 h4
    refine h g cap w' ⟨?_, ?_⟩ h2 h3
    · have e : fcells (F ++ [f]) = fcells F ++ fcell f := by simp [fcells]
      rw [e, List.length_append]
      exact h1
    · intro hn; simp at hn

theorem run_make76 (n : Nat) (hn : n ≤ 1048576) (kl kc : IntKind) (w : World) :
    (Instr.makeSlice 76 (.int kl (n : Int)) (.int kc (n : Int))).run Try.prog w = .ok (.slice (some ⟨w.heap.size, 0, none⟩) n n) (w.alloc (.cells (madeCells #[.bool false] n) 4)) :=
  run_make_row' (P := Try.prog) 76 4 (.bool false) 1 Try.underlying76 Try.info4 rfl kl kc n (by omega) (by omega) w

/-- what an append of a fault leaves of the rest -/
theorem flt_step {w0 w3 w4 : World} {base : Nat} {v : Value} {F' : List Flt} {g cap m A nc : Nat} {t : TypeId} {fn : Nat → Value} {o : Obj} (hbel : Below base w0 w3) (hb : base ≤ w3.heap.size) (hR : w3.rowIs A t nc fn) (hF : Flts w3 base v F')
    (hA : ∀ k, v.ownBlock = some k → k ≠ A) (hg : (w3.alloc o).grownBy w4 v.ownBlock) (hgg : v.ownBlock = some g ∨ g = w3.heap.size + 1) :
    Below base w0 w4 ∧ w3.heap.size < w4.heap.size ∧ w4.rowIs A t nc fn ∧ ∀ k, (Value.slice (some ⟨g, 0, none⟩) m cap).ownBlock = some k → k ≠ A := by
  have hs := hg.size
  simp at hs
  refine ⟨(hbel.alloc hb o).grown hg (by simp; omega) (fun k hk => (hF.lt k hk).1), by omega, ?_, ?_⟩
  · refine (hR.alloc o).of_block (hg.block A (by have := hR.lt; simp; omega) fun e => hA A e.symm rfl)
  · intro k hk
    simp [Value.ownBlock] at hk
    subst hk
    rcases hgg with h | h
    · exact hA g h
    · have := hR.lt; omega

theorem flts_len {w : World} {base g cap m : Nat} {F : List Flt} (h : Flts w base (.slice (some ⟨g, 0, none⟩) m cap) F) (e : m = F.length) : Flts w base (.slice (some ⟨g, 0, none⟩) F.length cap) F := by subst e; exact h

theorem unansw_some {cid : Nat → ByteArray} {n : Nat} {ans : Nat → Bool} {s : ByteArray} {k : Nat} (h : unansw cid n ans s = some k) : k < n := by
  unfold unansw at h
  exact List.mem_range.1 (List.mem_of_find?_eq_some h)
theorem ret2_int {v : Value} {a b : Int} (h : a = b) : Ending.returned (.tuple #[v, .int .i64 a]) = .returned (.tuple #[v, .int .i64 b]) := by rw [h]

set_option maxRecDepth 100000 in
set_option maxHeartbeats 1000000 in
theorem result33 (base : Nat) (v : Value) (F : List Flt) (a : Option Addr) (n c : Nat) (M : Nat → Msg) (asked : Nat) (w0 w : World) (hn : n ≤ 1048576) (hnc : (M asked).nc ≤ 1048576) (hask : asked < n)
    (hM : Msgs w0 a n M) (hH : w0.heap.size ≤ base) (hb0 : Below base w0 w) (hbase : base ≤ w.heap.size) (hF : Flts w base v F) (hlen : F.length ≤ 2199023255552) :
    Calls Try.prog 33 #[v, .slice a n c, .int .i64 asked] w fun e w' => ∃ v', e = .returned (.tuple #[v', .int .i64 (toolRun M n (asked + 1))]) ∧ Below base w0 w' ∧ base ≤ w'.heap.size ∧ Flts w' base v' (F ++ blockF M n asked) := by
  obtain ⟨b, o, rfl, hmsg⟩ := hM (by omega)
  obtain ⟨s1, s7, f, a2, c2, a5, n5, c5, a6, n6, c6, _, _, e2, _, _, _, _, _, hcs⟩ := hmsg asked hask
  have e2 := cell_ext hH hb0 e2
  have hmk := run_make76 _ hnc
  have hb1 := hb0.alloc hbase (.cells (madeCells #[.bool false] (M asked).nc) 4)
  have hR := World.rowIs_made w (.bool false) (M asked).nc 4
  have hF1 := hF.alloc (.cells (madeCells #[.bool false] (M asked).nc) 4)
  have hA : Hid (∀ k, v.ownBlock = some k → k ≠ w.heap.size) := fun k hk => by have := (hF.lt k hk).2; omega
  have hz : w.heap.size < (w.alloc (.cells (madeCells #[.bool false] (M asked).nc) 4)).heap.size := by simp
  go_enter Try.func33, Try.ntmps33
  go_upto_region 3 with (fail)
  generalize w.alloc (.cells (madeCells #[.bool false] (M asked).nc) 4) = w1 at *
  generalize w.heap.size = A at *
  clear hmk e2 hb0 hF
  have hcid : Hid (∃ nc cid, nc = (M asked).nc ∧ cid = (M asked).cid) := ⟨_, _, rfl, rfl⟩
  go_wp2
  go_loopw [0, 10] (fun v t wr => ∃ k : Nat, asked + 1 + k ≤ n ∧ t = .int .i64 ((asked : Int) + 1 + k) ∧ Hid (∀ t, t < k → toolB (M (asked + 1 + t)).role = true) ∧ Below base w0 wr ∧ A < wr.heap.size ∧ wr.rowIs A 4 (M asked).nc (fun j => .bool (ansK M asked k j)) ∧
      Flts wr base v (F ++ fltK M asked k) ∧ Hid (∀ k, v.ownBlock = some k → k ≠ A)) (fun _ t _ => n - (intOf t).toNat)
  case atStart => exact ⟨0, by omega, by go_num, (fun t ht => by omega), hb1, hz, hR, by simpa [fltK] using hF1, hA⟩
  case round =>
    obtain ⟨k, hk, rfl, htool, hbr, hzr, hRr, hFr, hAr⟩ := hrel
    clear hR hF1 hA hz hb1
    have hfl := fltK_len M asked k
    by_cases hx : asked + 1 + k < n ∧ toolB (M (asked + 1 + k)).role = true
    · obtain ⟨hlt, htl⟩ := hx
      obtain ⟨s1, s7, f, a2', c2', a5, n5, c5, a6, n6, c6, g0, _, _, g3, _, _, _, _, _⟩ := (hmsg _ hlt).ext hH hbr
      have htl' : ((M (asked + 1 + k)).role.toList == [116, 111, 111, 108]) = true := htl
      have hcsr := hcs.ext hH hbr
      have hbi := hbr.alloc (show base ≤ wr.heap.size by omega) (.cells #[.string (M (asked + 1 + k)).tcid] 9)
      have hbw := (Below.refl wr.heap.size wr).alloc (Nat.le_refl _) (.cells #[.string (M (asked + 1 + k)).tcid] 9)
      have hci : (wr.alloc (.cells #[.string (M (asked + 1 + k)).tcid] 9)).cell? ⟨wr.heap.size, 0, none⟩ = some (.string (M (asked + 1 + k)).tcid) := by simp
      have hRi := hRr.alloc (.cells #[.string (M (asked + 1 + k)).tcid] 9)
      have hFi := hFr.alloc (.cells #[.string (M (asked + 1 + k)).tcid] 9)
      have hzi : (wr.alloc (.cells #[.string (M (asked + 1 + k)).tcid] 9)).heap.size = wr.heap.size + 1 := by simp
      have hcsi := hcs.ext hH hbi
      go_wp2_with fail
      have C := unanswered36 a2 (M asked).nc c2 A (M asked).cid (ansK M asked k) (M (asked + 1 + k)).tcid _ hnc hcsi hRi
      refine C.mono ?_
      clear C
      rintro e w2 ⟨rfl, hb2⟩
      have hbel2 := hbi.trans (hb2.mono (by omega))
      have hR2 := row_ext hRi hb2 hRi.lt
      have hF2 := hFi.later hb2
      have hc2i := cell_ext (Nat.le_refl _) hb2 hci
      have hz2 := hb2.size
      have hcs2 := hcs.ext hH hbel2
      rw [hzi] at hz2
      generalize hX : wr.heap.size = X at *
      have hAX : A < X := by omega
      clear hci hRi hFi hbi hbw hcsi hcsr hzi hb2 hbr hRr hFr hzr
      cases hu : unansw (M asked).cid (M asked).nc (ansK M asked k) (M (asked + 1 + k)).tcid with
      | some cc =>
        have hcc := unansw_some hu
        have q1 := hR2.cell hcc
        have f1 := hR2.frozen cc
        have HU : Hid (ansK M asked (k + 1) = (fun j => if j = cc then true else ansK M asked k j) ∧ fltK M asked (k + 1) = fltK M asked k) := by
          constructor
          · show ansK M asked (k + 1) = _; rw [ansK, hu]
          · show fltK M asked (k + 1) = _; rw [fltK, hu]; simp
        have hoi : optInt (some cc) = (cc : Int) := rfl
        clear hu
        go_wp2
        go_roundw
        case rel =>
          refine ⟨k + 1, by omega, by go_num, (fun t ht => ?_), hbel2.setCell (by show base ≤ A; omega) _, by simp; omega, ?_, ?_, hAr⟩
          · by_cases e : t = k
            · subst e; exact htl
            · exact htool.out t (by omega)
          · rw [HU.out.1]
            refine (hR2.set cc _).congr fun j _ => ?_
            simp only []; split <;> rfl
          · rw [HU.out.2]
            exact hF2.kept fun k hk => Below.heap_setCell _ _ _ _ (hAr.out k hk)
        case measure => simp [intOf]; omega
      | none =>
        have HU : Hid (ansK M asked (k + 1) = ansK M asked k ∧ fltK M asked (k + 1) = fltK M asked k ++ [⟨if hasB (M asked).cid (M asked).nc (M (asked + 1 + k)).tcid then 2 else 1, (asked + 1 + k : Nat), asked, 0⟩]) := by
          constructor
          · show ansK M asked (k + 1) = _; rw [ansK, hu]
          · show fltK M asked (k + 1) = _; rw [fltK, hu]
        have hoi : optInt none = -1 := rfl
        clear hu
        go_wp2_with fail
        have C := contains37 a2 (M asked).nc c2 (M asked).cid X (M (asked + 1 + k)).tcid w2 hnc hcs2 hc2i
        refine C.mono ?_
        clear C
        rintro e w3 ⟨rfl, hb3⟩
        have hbel3 := hbel2.trans (hb3.mono (by omega))
        have hR3 := row_ext hR2 hb3 hR2.lt
        have hF3 := hF2.later hb3
        have hz3 := hb3.size
        clear hb3 hF2 hR2 hbel2 hc2i hcs2
        have hl3 : (F ++ fltK M asked k).length ≤ 4398046511103 := by rw [List.length_append]; omega
        cases hh : hasB (M asked).cid (M asked).nc (M (asked + 1 + k)).tcid
        · rw [hh] at HU
          go_wp2_with (at_builtin; refine wpList_append_flt w3 rfl _ _ rfl base u0 (F ++ fltK M asked k) rfl hF3 ⟨1, asked + 1 + k, asked, 0⟩ rfl hl3 (by omega) ?_; intro g cap w4 hF4 hg4 hgg)
          obtain ⟨r1, r2, r3, r4⟩ := flt_step (m := F.length + (fltK M asked k).length + 1) (cap := cap) hbel3 (by omega) hR3 hF3 hAr.out hg4 hgg
          go_roundw
          case rel =>
            refine ⟨k + 1, by omega, by go_num, (fun t ht => ?_), r1, by omega, ?_, ?_, r4⟩
            · by_cases e : t = k
              · subst e; exact htl
              · exact htool.out t (by omega)
            · rw [HU.out.1]; exact r3
            · rw [HU.out.2]
              have e : (((asked + 1 + k : Nat) : Int)) = (asked : Int) + 1 + k := by omega
              rw [e, ← List.append_assoc]
              simpa using hF4
          case measure => simp [intOf]; omega
        · rw [hh] at HU
          go_wp2_with (at_builtin; refine wpList_append_flt w3 rfl _ _ rfl base u0 (F ++ fltK M asked k) rfl hF3 ⟨2, asked + 1 + k, asked, 0⟩ rfl hl3 (by omega) ?_; intro g cap w4 hF4 hg4 hgg)
          obtain ⟨r1, r2, r3, r4⟩ := flt_step (m := F.length + (fltK M asked k).length + 1) (cap := cap) hbel3 (by omega) hR3 hF3 hAr.out hg4 hgg
          go_roundw
          case rel =>
            refine ⟨k + 1, by omega, by go_num, (fun t ht => ?_), r1, by omega, ?_, ?_, r4⟩
            · by_cases e : t = k
              · subst e; exact htl
              · exact htool.out t (by omega)
            · rw [HU.out.1]; exact r3
            · rw [HU.out.2]
              have e : (((asked + 1 + k : Nat) : Int)) = (asked : Int) + 1 + k := by omega
              rw [e, ← List.append_assoc]
              simpa using hF4
          case measure => simp [intOf]; omega
    · have htr : toolRun M n (asked + 1) = k := toolRun_eq hk htool.out (fun h => by
        cases hq : toolB (M (asked + 1 + k)).role
        · rfl
        · exact absurd ⟨h, hq⟩ hx)
      have HT : Hid (toolRun M n (asked + 1) = k) := htr
      clear htr
      by_cases hlt : asked + 1 + k < n
      · obtain ⟨s1, s7, f, a2', c2', a5, n5, c5, a6, n6, c6, g0, _, _, g3, _, _, _, _, _⟩ := (hmsg _ hlt).ext hH hbr
        have htl' : ((M (asked + 1 + k)).role.toList == [116, 111, 111, 108]) = false := by
          cases hq : toolB (M (asked + 1 + k)).role
          · exact hq
          · exact absurd ⟨hlt, hq⟩ hx
        have hd : True := trivial
        clear hx
        go_wp2
        clear hd
        go_loopw [0, 66] (fun v t wz => ∃ cc : Nat, cc ≤ (M asked).nc ∧ t = .int .i64 cc ∧ Below base w0 wz ∧ A < wz.heap.size ∧ wz.rowIs A 4 (M asked).nc (fun j => .bool (ansK M asked k j)) ∧
            Flts wz base v (F ++ fltK M asked k ++ missK asked (asked + 1 + k) (ansK M asked k) cc) ∧ Hid (∀ k, v.ownBlock = some k → k ≠ A)) (fun _ t _ => (M asked).nc - (intOf t).toNat)
        case atStart => exact ⟨0, Nat.zero_le _, rfl, hbr, hzr, hRr, by simpa [missK] using hFr, hAr⟩
        case round =>
          obtain ⟨cc, hcc, rfl, hbz, hzz, hRz, hFz, hAz⟩ := hrel
          clear hbr hzr hRr hFr hAr
          have hml := missK_len asked (asked + 1 + k) (ansK M asked k) cc
          by_cases hlc : cc < (M asked).nc
          · have q1 := hRz.cell hlc
            cases hans : ansK M asked k cc
            · rw [hans] at q1
              have HM : Hid (missK asked (asked + 1 + k) (ansK M asked k) (cc + 1) = missK asked (asked + 1 + k) (ansK M asked k) cc ++ [⟨3, (asked + 1 + k : Nat), asked, cc⟩]) := by
                show missK asked (asked + 1 + k) (ansK M asked k) (cc + 1) = _
                rw [missK, hans]; rfl
              have hl3 : (F ++ fltK M asked k ++ missK asked (asked + 1 + k) (ansK M asked k) cc).length ≤ 4398046511103 := by rw [List.length_append, List.length_append]; omega
              clear hans
              go_wp2_with (at_builtin; refine wpList_append_flt wr rfl _ _ rfl base u0 (F ++ fltK M asked k ++ missK asked (asked + 1 + k) (ansK M asked k) cc) rfl hFz ⟨3, asked + 1 + k, asked, cc⟩ rfl hl3 (by omega) ?_; intro g cap w4 hF4 hg4 hgg)
              obtain ⟨r1, r2, r3, r4⟩ := flt_step (m := F.length + (fltK M asked k).length + (missK asked (asked + 1 + k) (ansK M asked k) cc).length + 1) (cap := cap) hbz (by omega) hRz hFz hAz.out hg4 hgg
              go_roundw
              case rel =>
                refine ⟨cc + 1, by omega, by go_num, r1, by omega, r3, ?_, r4⟩
                rw [HM.out]
                have e : (((asked + 1 + k : Nat) : Int)) = (asked : Int) + 1 + k := by omega
                rw [e, ← List.append_assoc]
                simpa [Nat.add_assoc] using hF4
              case measure => simp [intOf]; omega
            · rw [hans] at q1
              have HM : Hid (missK asked (asked + 1 + k) (ansK M asked k) (cc + 1) = missK asked (asked + 1 + k) (ansK M asked k) cc) := by
                show missK asked (asked + 1 + k) (ansK M asked k) (cc + 1) = _
                rw [missK, hans]; simp
              clear hans
              go_wp2
              go_roundw
              case rel => exact ⟨cc + 1, by omega, by go_num, hbz, hzz, hRz, by rw [HM.out]; exact hFz, hAz⟩
              case measure => simp [intOf]; omega
          · have hce : cc = (M asked).nc := by omega
            have HB : Hid (F ++ fltK M asked k ++ missK asked (asked + 1 + k) (ansK M asked k) cc = F ++ blockF M n asked) := by
              show _ = _
              unfold blockF; rw [HT.out, hce, List.append_assoc]
            clear hce
            go_wp2
            go_ret2
            rw [HB.out] at hFz
            exact ⟨_, ret2_int (by rw [HT.out]; omega), hbz, by omega, hFz⟩
      · clear hx
        have hd : decide ((asked : Int) + 1 + k < n) = false := by simp; omega
        go_wp2
        clear hd
        go_loopw [0, 66] (fun v t wz => ∃ cc : Nat, cc ≤ (M asked).nc ∧ t = .int .i64 cc ∧ Below base w0 wz ∧ A < wz.heap.size ∧ wz.rowIs A 4 (M asked).nc (fun j => .bool (ansK M asked k j)) ∧
            Flts wz base v (F ++ fltK M asked k ++ missK asked (asked + 1 + k) (ansK M asked k) cc) ∧ Hid (∀ k, v.ownBlock = some k → k ≠ A)) (fun _ t _ => (M asked).nc - (intOf t).toNat)
        case atStart => exact ⟨0, Nat.zero_le _, rfl, hbr, hzr, hRr, by simpa [missK] using hFr, hAr⟩
        case round =>
          obtain ⟨cc, hcc, rfl, hbz, hzz, hRz, hFz, hAz⟩ := hrel
          clear hbr hzr hRr hFr hAr
          have hml := missK_len asked (asked + 1 + k) (ansK M asked k) cc
          by_cases hlc : cc < (M asked).nc
          · have q1 := hRz.cell hlc
            cases hans : ansK M asked k cc
            · rw [hans] at q1
              have HM : Hid (missK asked (asked + 1 + k) (ansK M asked k) (cc + 1) = missK asked (asked + 1 + k) (ansK M asked k) cc ++ [⟨3, (asked + 1 + k : Nat), asked, cc⟩]) := by
                show missK asked (asked + 1 + k) (ansK M asked k) (cc + 1) = _
                rw [missK, hans]; rfl
              have hl3 : (F ++ fltK M asked k ++ missK asked (asked + 1 + k) (ansK M asked k) cc).length ≤ 4398046511103 := by rw [List.length_append, List.length_append]; omega
              clear hans
              go_wp2_with (at_builtin; refine wpList_append_flt wr rfl _ _ rfl base u0 (F ++ fltK M asked k ++ missK asked (asked + 1 + k) (ansK M asked k) cc) rfl hFz ⟨3, asked + 1 + k, asked, cc⟩ rfl hl3 (by omega) ?_; intro g cap w4 hF4 hg4 hgg)
              obtain ⟨r1, r2, r3, r4⟩ := flt_step (m := F.length + (fltK M asked k).length + (missK asked (asked + 1 + k) (ansK M asked k) cc).length + 1) (cap := cap) hbz (by omega) hRz hFz hAz.out hg4 hgg
              go_roundw
              case rel =>
                refine ⟨cc + 1, by omega, by go_num, r1, by omega, r3, ?_, r4⟩
                rw [HM.out]
                have e : (((asked + 1 + k : Nat) : Int)) = (asked : Int) + 1 + k := by omega
                rw [e, ← List.append_assoc]
                simpa [Nat.add_assoc] using hF4
              case measure => simp [intOf]; omega
            · rw [hans] at q1
              have HM : Hid (missK asked (asked + 1 + k) (ansK M asked k) (cc + 1) = missK asked (asked + 1 + k) (ansK M asked k) cc) := by
                show missK asked (asked + 1 + k) (ansK M asked k) (cc + 1) = _
                rw [missK, hans]; simp
              clear hans
              go_wp2
              go_roundw
              case rel => exact ⟨cc + 1, by omega, by go_num, hbz, hzz, hRz, by rw [HM.out]; exact hFz, hAz⟩
              case measure => simp [intOf]; omega
          · have hce : cc = (M asked).nc := by omega
            have HB : Hid (F ++ fltK M asked k ++ missK asked (asked + 1 + k) (ansK M asked k) cc = F ++ blockF M n asked) := by
              show _ = _
              unfold blockF; rw [HT.out, hce, List.append_assoc]
            clear hce
            go_wp2
            go_ret2
            rw [HB.out] at hFz
            exact ⟨_, ret2_int (by rw [HT.out]; omega), hbz, by omega, hFz⟩

end Go.Proofs.Qxb6601521a
