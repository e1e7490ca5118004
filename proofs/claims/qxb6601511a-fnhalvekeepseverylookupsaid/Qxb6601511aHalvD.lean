/-
  The main walk of FnHalveKeepsEveryLookup.
-/
import Derived.Test.Qxb6601511aHalvC
import Derived.Deep.RegionWith
import Derived.LaidEqlPtr
namespace Go.Proofs.Qxb6601511a
open Go.RowKit

/-- a slice of numbers that came in, below block N -/
def Arr (N : Nat) (k : IntKind) (w : World) (a : Option Addr) (len : Nat) (f : Nat → Int) : Prop :=
  0 < len → ∃ b off, a = some ⟨b, off, none⟩ ∧ b < N ∧ ∀ i, i < len → w.cell? ⟨b, off + i, none⟩ = some (.int k (f i))

theorem Arr.below {N : Nat} {k : IntKind} {w w' : World} {a : Option Addr} {len : Nat} {f : Nat → Int} (h : Arr N k w a len f) (hb : Below N w w') : Arr N k w' a len f := fun hl => by
  obtain ⟨b, off, ha, hlt, hc⟩ := h hl
  exact ⟨b, off, ha, hlt, fun i hi => (hb.cell (p := ⟨b, off + i, none⟩) hlt).trans (hc i hi)⟩

/-- a pointer against itself -/
theorem run_neq_ptr_self {P : Program} (w : World) {tp te : TypeId} (p : Option Addr) (hp : P.underlying tp = some (.pointer te)) (hte : (P.info? te).isSome = true) :
    (binOp .neq tp (.pointer p) (.pointer p)).run P w = .ok (.bool false) w := by
  obtain ⟨j, hj⟩ := Option.isSome_iff_exists.1 hte
  have h : ∀ d : Nat, (Op.equalIn (d + 1) tp (.pointer p) (.pointer p)).run P w = .ok true w := fun d => by
    cases p with
    | none => simp [Op.equalIn, run_underlying hp]
    | some a => simp [Op.equalIn, run_underlying hp, sizeOf, typeInfo, hj, run_sameAddr_same]
  simp only [binOp]
  simp [Op.equal, Op.maxDepth, h 9999]

/-- what the law wants as a segment's depth is what halve compares with -/
theorem wrap_same (shift depth : Int) : IntKind.u64.wrap (IntKind.u64.wrap (shift + depth) - 1) = IntKind.u64.wrap (shift + (depth - 1)) := by
  simp only [IntKind.wrap_u64]
  omega

theorem cnt_pairs_lt (f g : Nat → Bool) (n : Nat) (h : ∀ e, e < n → f (2 * e) = g e ∧ f (2 * e + 1) = g e) : cnt f (2 * n) = 2 * cnt g n := by
  induction n with
  | zero => rfl
  | succ n ih =>
    rw [show 2 * (n + 1) = 2 * n + 1 + 1 by omega]
    show (cnt f (2 * n) + if f (2 * n) then 1 else 0) + (if f (2 * n + 1) then 1 else 0) = 2 * (cnt g n + if g n then 1 else 0)
    rw [ih (fun e he => h e (by omega)), (h n (by omega)).1, (h n (by omega)).2]
    split <;> omega

theorem pow_even (depth : Int) (n : Nat) (h1 : ¬ depth < 1) (h2 : ¬ 12 < depth) (h : ((n : Int) != wrap64 (2 ^ depth.toNat)) = false) : ∃ k, n = 2 * k ∧ 1 ≤ k := by
  rw [bne_eq_false_iff_eq] at h
  obtain ⟨d, rfl⟩ := Int.eq_ofNat_of_zero_le (show 0 ≤ depth by omega)
  have : d = 1 ∨ d = 2 ∨ d = 3 ∨ d = 4 ∨ d = 5 ∨ d = 6 ∨ d = 7 ∨ d = 8 ∨ d = 9 ∨ d = 10 ∨ d = 11 ∨ d = 12 := by omega
  rcases this with e | e | e | e | e | e | e | e | e | e | e | e <;> subst e <;> simp [wrap64] at h <;> exact ⟨n / 2, by omega, by omega⟩

set_option maxRecDepth 100000 in
set_option maxHeartbeats 2000000 in
theorem main7 (a0 : Option Addr) (nS c0 : Nat) (dp : Nat → Int) (a1 : Option Addr) (n1 c1 : Nat) (cn : Nat → Int) (a2 : Option Addr) (nE c2 : Nat) (en : Nat → Int) 
    (shift depth deepest : Int) (belowMade upMade : Bool) (upEntry : Int) (w : World) (s0 : Arr w.heap.size .u64 w a0 nS dp) (s1 : Arr w.heap.size .i64 w a1 n1 cn) (s2 : Arr w.heap.size .i64 w a2 nE en)
    (h0 : nS ≤ 4096) (h1 : n1 ≤ 4096) (h2 : nE ≤ 4096) (_hdep : 0 ≤ depth) :
    Calls Try.prog 7 #[.slice a0 nS c0, .slice a1 n1 c1, .slice a2 nE c2, .int .u64 shift, .int .u64 depth, .int .i64 deepest, .bool belowMade, .bool upMade, .int .i64 upEntry] w fun e w' => e = .returned (.bool true) ∧ Below w.heap.size w w' := by
  have C := bytes24 a0 a1 a2 nS n1 nE c0 c1 c2 (.int .u64 shift) (.int .u64 depth) (.int .i64 deepest) (.bool belowMade) (.bool upMade) (.int .i64 upEntry) w (by omega) (by omega) (by omega)
  go_enter Try.func7, Try.ntmps7
  go_wp2_with fail
  refine C.mono ?_
  clear C
  rintro e w' ⟨rfl, rfl⟩
  by_cases hn1 : n1 = nS
  rotate_left
  · have hb : ((n1 : Int) != (nS : Int)) = true := by rw [bne_iff_ne]; omega
    go_wp2
    go_ret
    exact ⟨rfl, Below.refl _ _⟩
  obtain rfl := hn1.symm
  by_cases hd1 : depth < 1
  · go_wp2
    go_ret
    exact ⟨rfl, Below.refl _ _⟩
  by_cases hd2 : 12 < depth
  · go_wp2
    go_ret
    exact ⟨rfl, Below.refl _ _⟩
  go_upto_region 9 with (fail)
  cases hq : ((nE : Int) != wrap64 (2 ^ depth.toNat))
  rotate_left
  · go_wp2
    go_ret
    exact ⟨rfl, Below.refl _ _⟩
  obtain ⟨m, hm, hm1⟩ := pow_even depth nE (by omega) (by omega) hq
  go_wp2
  clear hq
  subst hm
  go_loop [19] (fun t => ∃ j : Nat, j ≤ 2 * m ∧ t = .int .i64 j ∧ Hid (∀ i, i < j → 0 ≤ en i ∧ en i < nS)) (fun t => 2 * m - (intOf t).toNat)
  case atStart => exact ⟨0, Nat.zero_le _, rfl, fun i hi => by omega⟩
  case round =>
    obtain ⟨j, hj, rfl, hR⟩ := hrel
    by_cases hlt : j < 2 * m
    · obtain ⟨b, off, rfl, hb, hc⟩ := s2 (by omega)
      have g := hc j hlt
      clear s0 s1 s2
      by_cases e1 : en j < 0
      · go_wp2
        go_ret
        exact ⟨rfl, Below.refl _ _⟩
      by_cases e2 : (nS : Int) ≤ en j
      · go_wp2
        go_ret
        exact ⟨rfl, Below.refl _ _⟩
      go_wp2
      go_round
      case rel => exact ⟨j + 1, by omega, by go_num, fun i hi => by
                    by_cases e : i = j
                    · subst e; omega
                    · exact hR.out i (by omega)⟩
      case measure => simp [intOf]; omega
    · have hR1 : Hid (∀ i, i < 2 * m → 0 ≤ en i ∧ en i < nS) := fun i hi => hR.out i (by omega)
      clear hR
      go_wp2
      go_loopw [20] (fun t wr => ∃ k n : Nat, 2 * k ≤ 2 * m ∧ t = .int .i64 (2 * k) ∧ wr = w'.drewN n ∧ Hid (∀ i, i < k → en (2 * i) = en (2 * i + 1))) (fun t _ => 2 * m - (intOf t).toNat)
      case atStart => exact ⟨0, 0, Nat.zero_le _, rfl, rfl, fun i hi => by omega⟩
      case round =>
        obtain ⟨k, nq, hk, rfl, rfl, hE⟩ := hrel
        by_cases hlt2 : k < m
        · obtain ⟨b, off, rfl, hb, hc⟩ := s2 (by omega)
          have g0 := hc (2 * k) (by omega)
          have g1 := hc (2 * k + 1) (by omega)
          have g1' : w'.cell? ⟨b, off + 2 * k + 1, none⟩ = some (.int .i64 (en (2 * k + 1))) := g1
          have g1'' : w'.cell? ⟨b, off + (1 + 2 * k), none⟩ = some (.int .i64 (en (2 * k + 1))) := by rw [Nat.add_comm 1]; exact g1
          clear hc s0 s1 s2
          go_wp2
          go_quiet (fail)
          by_cases e1 : en (2 * k) = en (2 * k + 1)
          · have HE : Hid (en (2 * k) = en (2 * k + 1)) := e1
            have hb : (en (2 * k) != en (2 * k + 1)) = false := by rw [bne_eq_false_iff_eq]; exact e1
            clear e1
            go_wp2
            go_roundw
            case rel => exact ⟨k + 1, _, by omega, by go_num, rfl, fun i hi => by
                          by_cases e : i = k
                          · subst e; exact HE.out
                          · exact hE.out i (by omega)⟩
            case measure => simp [intOf]; omega
          · have hb : (en (2 * k) != en (2 * k + 1)) = true := by rw [bne_iff_ne]; exact e1
            clear e1
            go_wp2
            go_ret
            exact ⟨rfl, below_drewN (below_drewN (Below.refl _ _) _) _⟩
        · have hE1 : Hid (∀ i, i < m → en (2 * i) = en (2 * i + 1)) := fun i hi => hE.out i (by omega)
          clear hE
          have B1 := below_drewN (Below.refl w'.heap.size w') nq
          have hz1 : (w'.drewN nq).heap.size = w'.heap.size := rfl
          have s0 := s0.below B1
          have s1 := s1.below B1
          have s2 := s2.below B1
          have hmk := run_make46 nS (by omega)
          go_upto_region 21 with (fail)
          generalize w'.drewN nq = w1 at *
          have M1 := World.rowIs_made w1 (.pointer none) nS 47
          have B2 := (Below.refl w1.heap.size w1).alloc (Nat.le_refl _) (.cells (madeCells #[.pointer none] nS) 47)
          have hz2 : (w1.alloc (.cells (madeCells #[.pointer none] nS) 47)).heap.size = w1.heap.size + 1 := by simp
          go_upto_region 22 with (fail)
          generalize w1.alloc (.cells (madeCells #[.pointer none] nS) 47) = w2 at *
          obtain ⟨ei, hei, heq⟩ : ∃ ei : Nat → Nat, Hid (∀ i, i < 2 * m → ei i < nS) ∧ Hid (∀ i, i < 2 * m → en i = (ei i : Nat)) :=
            ⟨fun i => (en i).toNat, fun i hi => by have := hR1.out i hi; show (en i).toNat < nS; omega, fun i hi => by have := hR1.out i hi; show en i = ((en i).toNat : Nat); omega⟩
          have hep : Hid (∀ i, i < m → ei (2 * i) = ei (2 * i + 1)) := fun i hi => by
            have q1 := hE1.out i hi; have q2 := heq.out (2 * i) (by omega); have q3 := heq.out (2 * i + 1) (by omega); omega
          have s2 : Arr w'.heap.size .i64 w1 a2 (2 * m) (fun i => (ei i : Nat)) := fun hl => by
            obtain ⟨b, off, e1, e2, e3⟩ := s2 hl
            exact ⟨b, off, e1, e2, fun i hi => by rw [e3 i hi, heq.out i hi]⟩
          clear hE1 hR1 heq hmk
          rw [hz1] at hz2 B2 M1
          generalize hNN : w'.heap.size = N at *
          have HN : Hid (w'.heap.size = N) := hNN
          clear hNN
          go_wp2
          go_loopw [22] (fun t wr => ∃ k : Nat, k ≤ nS ∧ t = .int .i64 k ∧ Below N w1 wr ∧ wr.heap.size = N + 1 + k ∧ wr.rowIs N 47 nS (fun i => if i < k then .pointer (some ⟨N + 1 + i, 0, none⟩) else .pointer none) ∧
              ∀ i, i < k → wr.rowIs (N + 1 + i) 70 4 (segf (dp i) (cn i))) (fun t _ => nS - (intOf t).toNat)
          case atStart => exact ⟨0, Nat.zero_le _, rfl, B2, hz2, by simpa using M1, fun i hi => by omega⟩
          case round =>
            obtain ⟨k2, hk2, rfl, Br, hzr, Rr, Sr⟩ := hrel
            have Hz : Hid (wr.heap.size = N + 1 + k2) := hzr
            have HS : Hid (∀ i, i < k2 → wr.rowIs (N + 1 + i) 70 4 (segf (dp i) (cn i))) := Sr
            clear Sr B2 M1 hz2
            by_cases hlt3 : k2 < nS
            · obtain ⟨b0, o0, rfl, hb0, hc0⟩ := s0 (by omega)
              obtain ⟨b1, o1, rfl, hb1, hc1⟩ := s1 (by omega)
              have g0 : wr.cell? ⟨b0, o0 + k2, none⟩ = some (.int .u64 (dp k2)) := (Br.cell (p := ⟨b0, o0 + k2, none⟩) (by show b0 < N; omega)).trans (hc0 k2 hlt3)
              have g1 : wr.cell? ⟨b1, o1 + k2, none⟩ = some (.int .i64 (cn k2)) := (Br.cell (p := ⟨b1, o1 + k2, none⟩) (by show b1 < N; omega)).trans (hc1 k2 hlt3)
              have q1 := Rr.cell (i := k2) hlt3
              have f1 := Rr.frozen k2
              have q2 := (Rr.alloc (.cells #[.int .u64 (dp k2), .int .i64 (cn k2), .slice none 0 0, .slice none 0 0] 70)).cell (i := k2) hlt3
              have f2 := (Rr.alloc (.cells #[.int .u64 (dp k2), .int .i64 (cn k2), .slice none 0 0, .slice none 0 0] 70)).frozen k2
              have C := newseg25 (dp k2) (cn k2) wr.drew
              clear hc0 hc1 s0 s1 s2
              go_wp2
              go_region_with (go_at_call 25; refine C.mono ?_; rintro e w5 ⟨rfl, rfl⟩)
              all_goals
                go_wp2
                go_roundw
                case rel =>
                  have R2 := (Rr.alloc (.cells #[.int .u64 (dp k2), .int .i64 (cn k2), .slice none 0 0, .slice none 0 0] 70)).set k2 (.pointer (some ⟨N + 1 + k2, 0, none⟩))
                  have SN := (seg_row (dp k2) (cn k2) wr)
                  rw [Hz.out] at SN
                  refine ⟨k2 + 1, by omega, by go_num, ((Br.alloc (by omega) _).setCell (Nat.le_refl _) _).drew, by simp; omega, ?_, ?_⟩
                  · refine R2.drew.congr fun i _ => ?_
                    by_cases c : i = k2
                    · subst c; simp
                    · have : i < k2 + 1 ↔ i < k2 := by omega
                      simp [c, this]
                  · intro i hi
                    by_cases c : i = k2
                    · subst c; exact (SN.setOther (by simp; omega) _).drew
                    · exact (((HS.out i (by omega)).alloc _).setOther (by simp; omega) _).drew
                case measure => simp [intOf]; omega
            · have Rs : wr.rowIs N 47 nS (fun i => .pointer (some ⟨N + 1 + i, 0, none⟩)) := Rr.congr fun i hi => by simp [show i < k2 by omega]
              have hk2 : k2 = nS := by omega
              have HS2 : Hid (∀ i, i < nS → wr.rowIs (N + 1 + i) 70 4 (segf (dp i) (cn i))) := fun i hi => HS.out i (by omega)
              have hz3 : wr.heap.size = N + 1 + nS := by omega
              clear Rr HS Hz hzr hk2
              have hmk := run_make46 (2 * m) (by omega)
              rw [show ((2 * m : Nat) : Int) = 2 * (m : Int) from by omega] at hmk
              obtain ⟨w3, rfl⟩ : ∃ w3, w3 = wr := ⟨_, rfl⟩
              go_upto_region 26 with (fail)
              have M4 := World.rowIs_made w3 (.pointer none) (2 * m) 47
              have B4 := (Below.refl w3.heap.size w3).alloc (Nat.le_refl _) (.cells (madeCells #[.pointer none] (2 * m)) 47)
              have hz4 : (w3.alloc (.cells (madeCells #[.pointer none] (2 * m)) 47)).heap.size = N + 1 + nS + 1 := by simp [hz3]
              go_upto_region 27 with (fail)
              generalize w3.alloc (.cells (madeCells #[.pointer none] (2 * m)) 47) = w4 at *
              rw [hz3] at M4 B4
              clear hmk
              have Rs := row_same Rs B4 (by omega)
              have HS3 : Hid (∀ i, i < nS → w4.rowIs (N + 1 + i) 70 4 (segf (dp i) (cn i))) := fun i hi => row_same (HS2.out i hi) B4 (by omega)
              have B5 : Below N w1 w4 := Br.trans (B4.mono (by omega))
              clear B4 HS2 Br hz3
              go_wp2
              go_loopw [24] (fun t wr => ∃ k : Nat, k ≤ 2 * m ∧ t = .int .i64 k ∧ Below (N + 1 + nS) w4 wr ∧ wr.heap.size = N + 1 + nS + 1 ∧ wr.rowIs (N + 1 + nS) 47 (2 * m) (fun i => if i < k then .pointer (some ⟨N + 1 + ei i, 0, none⟩) else .pointer none)) (fun t _ => 2 * m - (intOf t).toNat)
              case atStart => exact ⟨0, Nat.zero_le _, rfl, Below.refl _ _, hz4, by simpa using M4⟩
              case round =>
                obtain ⟨j4, hj4, rfl, Br, hzr, Rr⟩ := hrel
                clear M4
                by_cases hlt4 : j4 < 2 * m
                · obtain ⟨b2, o2, rfl, hb2, hc2⟩ := s2.below (B5.trans (Br.mono (by omega))) (by omega)
                  have hel := hei.out j4 hlt4
                  have g2 := hc2 j4 hlt4
                  have Rn := row_same Rs Br (by omega)
                  have q1 := Rn.cell hel
                  have q2 := Rr.cell hlt4
                  have f2 := Rr.frozen j4
                  clear hc2 s0 s1 s2
                  go_wp2
                  go_roundw
                  case rel =>
                    refine ⟨j4 + 1, by omega, by go_num, Br.setCell (Nat.le_refl _) _, by simpa using hzr, ?_⟩
                    refine (Rr.set j4 _).congr fun i _ => ?_
                    by_cases c : i = j4
                    · subst c; simp
                    · have : i < j4 + 1 ↔ i < j4 := by omega
                      simp [c, this]
                  case measure => simp [intOf]; omega
                · have Rm : wr.rowIs (N + 1 + nS) 47 (2 * m) (fun i => .pointer (some ⟨N + 1 + ei i, 0, none⟩)) := Rr.congr fun i hi => by simp [show i < j4 by omega]
                  have Bz : Below N w1 wr := B5.trans (Br.mono (by omega))
                  have Rs := row_same Rs Br (by omega)
                  have HS4 : Hid (∀ i, i < nS → wr.rowIs (N + 1 + i) 70 4 (segf (dp i) (cn i))) := fun i hi => row_same (HS3.out i hi) Br (by omega)
                  obtain ⟨w5, rfl⟩ : ∃ w5, w5 = wr := ⟨_, rfl⟩
                  clear Rr Br B5 HS3
                  go_wp2_with fail
                  have C := newdir26 shift depth deepest upEntry (some ⟨N + 1 + nS, 0, none⟩) (2 * m) (2 * m) belowMade upMade w5 (by omega)
                  refine C.mono ?_
                  clear C
                  rintro e w6 ⟨rfl, B6, z6, ba, ua, bl, bc, RD, hu0, hu1⟩
                  have HU : Hid ((upMade = false → ua = none) ∧ (upMade = true → ∃ U, ua = some ⟨U, 0, none⟩ ∧ w5.heap.size < U ∧ U < w6.heap.size ∧ w6.rowIs U 73 7 (dirf 0 0 0 (.slice none 0 0) (.slice none 0 0) (.pointer none) 0))) := ⟨hu0, hu1⟩
                  clear hu0 hu1
                  rw [hzr] at B6 RD z6
                  have Rs := row_same Rs B6 (by omega)
                  have Rm := row_same Rm B6 (by omega)
                  have HS5 : Hid (∀ i, i < nS → w6.rowIs (N + 1 + i) 70 4 (segf (dp i) (cn i))) := fun i hi => row_same (HS4.out i hi) B6 (by omega)
                  have Bz := Bz.trans (B6.mono (by omega))
                  clear HS4 B6
                  go_wp2_with fail
                  have C := dirstate27 (N + 1 + nS + 1) shift depth deepest upEntry _ _ _ _ _ _ _ w6 RD
                  refine C.mono ?_
                  clear C
                  rintro e w7 ⟨rfl, n7, rfl⟩
                  have hk : (ua.isNone == upMade) = false := by
                    obtain ⟨q1, q2⟩ := HU.out
                    cases upMade
                    · rw [q1 rfl]; rfl
                    · obtain ⟨U, hU, _⟩ := q2 rfl; rw [hU]; rfl
                  have HU : Hid ((upMade = false → ua = none) ∧ (upMade = true → ∃ U, ua = some ⟨U, 0, none⟩ ∧ w5.heap.size < U ∧ U < (w6.drewN n7).heap.size ∧ (w6.drewN n7).rowIs U 73 7 (dirf 0 0 0 (.slice none 0 0) (.slice none 0 0) (.pointer none) 0))) := HU
                  have Rs : (w6.drewN n7).rowIs _ _ _ _ := Rs
                  have Rm : (w6.drewN n7).rowIs _ _ _ _ := Rm
                  have RD : (w6.drewN n7).rowIs _ _ _ _ := RD
                  have HS6 : Hid (∀ i, i < nS → (w6.drewN n7).rowIs (N + 1 + i) 70 4 (segf (dp i) (cn i))) := HS5
                  have Bz := below_drewN Bz n7
                  have z6 : N + 1 + nS + 1 < (w6.drewN n7).heap.size := z6
                  go_upto_if 193 with (fail)
                  generalize w6.drewN n7 = w7 at *
                  clear HS5
                  obtain ⟨x, hx⟩ : ∃ x, IntKind.u64.wrap (shift + (depth - 1)) = x := ⟨_, rfl⟩
                  have HX : Hid (IntKind.u64.wrap (shift + (depth - 1)) = x) := hx
                  clear hx
                  have C := zzhalve28 (N + 1 + nS + 1) (N + 1 + nS) m (2 * m) shift depth deepest upEntry x ba ua bl bc (fun j => N + 1 + ei j) (fun j => dp (ei j)) (fun j => cn (ei j)) w7 (by omega) (by omega) (by omega) HX.out RD Rm (fun j hj => HS6.out (ei j) (hei.out j hj))
                  go_wp2_with fail
                  refine C.mono ?_
                  clear C
                  rintro e w8 ⟨rfl, A8, R8, Q8⟩
                  have Bz8 : Below N w1 w8 := Bz.trans ((A8.below (by omega)).mono (by omega))
                  have Rs := A8.row Rs (by omega)
                  have HS8 : Hid (∀ i, i < nS → w8.rowIs (N + 1 + i) 70 4 (segf (dp i) (cn i))) := fun i hi => A8.row (HS6.out i hi) (by omega)
                  have HU8 : Hid ((upMade = false → ua = none) ∧ (upMade = true → ∃ U, ua = some ⟨U, 0, none⟩ ∧ w8.rowIs U 73 7 (dirf 0 0 0 (.slice none 0 0) (.slice none 0 0) (.pointer none) 0))) :=
                    ⟨HU.out.1, fun h => by obtain ⟨U, e1, e2, e3, e4⟩ := HU.out.2 h; exact ⟨U, e1, A8.row e4 (by omega)⟩⟩
                  clear A8 HS6 HU Bz RD Rm
                  generalize w7.heap.size = Q at *
                  go_wp2_with fail
                  have C := dirstate27 (N + 1 + nS + 1) shift (depth - 1) _ upEntry _ _ _ _ _ _ _ w8 R8
                  refine C.mono ?_
                  clear C
                  rintro e w9 ⟨rfl, n9, rfl⟩
                  have Rs : (w8.drewN n9).rowIs _ _ _ _ := Rs
                  have Q8 : (w8.drewN n9).rowIs _ _ _ _ := Q8
                  have HS9 : Hid (∀ i, i < nS → (w8.drewN n9).rowIs (N + 1 + i) 70 4 (segf (dp i) (cn i))) := HS8
                  have HU9 : Hid ((upMade = false → ua = none) ∧ (upMade = true → ∃ U, ua = some ⟨U, 0, none⟩ ∧ (w8.drewN n9).rowIs U 73 7 (dirf 0 0 0 (.slice none 0 0) (.slice none 0 0) (.pointer none) 0))) := HU8
                  have Bz9 := below_drewN Bz8 n9
                  go_upto_region 37 with (fail)
                  generalize w8.drewN n9 = w9 at *
                  clear HS8 HU8 Bz8 R8
                  have p49 := fun w p => run_neq_ptr_self (P := Try.prog) w (tp := 49) p Try.underlying49 (by kernel_rfl)
                  have p47 := fun w p => run_neq_ptr_self (P := Try.prog) w (tp := 47) p Try.underlying47 (by kernel_rfl)
                  have HC : Hid (cnt (fun j => dp (ei j) == x) (2 * m) = 2 * cnt (fun e => dp (ei (2 * e)) == x) m) := cnt_pairs_lt _ _ m fun e he => ⟨rfl, by show (dp (ei (2 * e + 1)) == x) = _; rw [← hep.out e he]⟩
                  generalize cnt (fun e => dp (ei (2 * e)) == x) m = C at *
                  go_wp2
                  go_loopw [40] (fun t wr => ∃ k n : Nat, k ≤ 2 * m ∧ t = .int .i64 k ∧ wr = w9.drewN n) (fun t _ => 2 * m - (intOf t).toNat)
                  case atStart => exact ⟨0, 0, Nat.zero_le _, rfl, rfl⟩
                  case round =>
                    obtain ⟨j5, n5, hj5, rfl, rfl⟩ := hrel
                    by_cases hlt5 : j5 < 2 * m
                    · obtain ⟨b2, o2, rfl, hb2, hc2⟩ := s2.below Bz9 (by omega)
                      have hel := hei.out j5 hlt5
                      have g2 := hc2 j5 hlt5
                      have q1 := Rs.cell hel
                      have q2 := Q8.cell (i := j5 / 2) (by omega)
                      have ee : ei (2 * (j5 / 2)) = ei j5 := by
                        by_cases c : j5 % 2 = 0
                        · rw [show 2 * (j5 / 2) = j5 by omega]
                        · rw [hep.out (j5 / 2) (by omega), show 2 * (j5 / 2) + 1 = j5 by omega]
                      rw [ee] at q2
                      clear hc2 s0 s1 s2 ee
                      go_wp2
                      go_quiet (fail)
                      go_wp2
                      go_roundw
                      case rel => exact ⟨j5 + 1, _, by omega, by go_num, rfl⟩
                      case measure => simp [intOf]; omega
                    · have Rs : (w9.drewN n5).rowIs _ _ _ _ := Rs
                      have HS10 : Hid (∀ i, i < nS → (w9.drewN n5).rowIs (N + 1 + i) 70 4 (segf (dp i) (cn i))) := HS9
                      have HU10 : Hid ((upMade = false → ua = none) ∧ (upMade = true → ∃ U, ua = some ⟨U, 0, none⟩ ∧ (w9.drewN n5).rowIs U 73 7 (dirf 0 0 0 (.slice none 0 0) (.slice none 0 0) (.pointer none) 0))) := HU9
                      have Bz10 := below_drewN Bz9 n5
                      go_upto_region 46 with (fail)
                      generalize w9.drewN n5 = w10 at *
                      clear HS9 HU9 Bz9 Q8
                      have hw : IntKind.u64.wrap (IntKind.u64.wrap (shift + depth) - 1) = x := by rw [wrap_same]; exact HX.out
                      go_wp2
                      go_loop [41, 42] (fun t u => ∃ j : Nat, j ≤ 2 * m ∧ u = .int .i64 j ∧ t = .int .i64 (cnt (fun j => dp (ei j) == x) j)) (fun _ u => 2 * m - (intOf u).toNat)
                      case atStart => exact ⟨0, Nat.zero_le _, rfl, rfl⟩
                      case round =>
                        obtain ⟨j6, hj6, rfl, rfl⟩ := hrel
                        have hcl := cnt_le (fun j => dp (ei j) == x) j6
                        have CS : Hid (cnt (fun j => dp (ei j) == x) (j6 + 1) = cnt (fun j => dp (ei j) == x) j6 + if (dp (ei j6) == x) = true then 1 else 0) := cnt_succ _ _
                        by_cases hlt6 : j6 < 2 * m
                        · obtain ⟨b2, o2, rfl, hb2, hc2⟩ := s2.below Bz10 (by omega)
                          have hel := hei.out j6 hlt6
                          obtain ⟨b0, o0, rfl, hb0, hc0⟩ := s0.below Bz10 (by omega)
                          have g2 := hc2 j6 hlt6
                          have g0 := hc0 (ei j6) hel
                          generalize cnt (fun j => dp (ei j) == x) j6 = Cj at *
                          clear hc2 hc0 s0 s1 s2
                          cases hb : dp (ei j6) == x
                          · rw [hb] at CS
                            go_wp2
                            go_round
                            case rel => exact ⟨j6 + 1, by omega, by go_num, by rw [CS.out]; rfl⟩
                            case measure => simp [intOf]; omega
                          · rw [hb] at CS
                            go_wp2
                            go_round
                            case rel => exact ⟨j6 + 1, by omega, by go_num, by rw [CS.out]; simp⟩
                            case measure => simp [intOf]; omega
                        · have hjm : j6 = 2 * m := by omega
                          have HJ : Hid (cnt (fun j => dp (ei j) == x) j6 = 2 * C) := by rw [hjm]; exact HC.out
                          have hcz1 : cnt (fun j => dp (ei j) == x) j6 ≤ 2 * C := by rw [HJ.out]; exact Nat.le_refl _
                          have hcz2 : 2 * C ≤ cnt (fun j => dp (ei j) == x) j6 := by rw [HJ.out]; exact Nat.le_refl _
                          clear hjm CS HJ HC
                          generalize cnt (fun j => dp (ei j) == x) j6 = Cz at *
                          go_upto_if 279 with (fail)
                          go_cut [] from 254 to 315 (fun wc => ∃ n, wc = w10.drewN n)
                          case first =>
                            as_aux_lemma =>
                              obtain ⟨u0, u1⟩ := HU10.out
                              cases upMade
                              · obtain rfl := u0 rfl
                                go_wp2
                                go_meet
                                case rel => exact ⟨0, rfl⟩
                              · obtain ⟨U, rfl, RU⟩ := u1 rfl
                                have e46 := fun w a n c n' c' => run_neq_slice_nil_any (P := Try.prog) w 46 47 a n c n' c' Try.underlying46
                                go_wp2_with fail
                                have C := dirstate27 U 0 0 0 0 none none none 0 0 0 0 w10 RU
                                refine C.mono ?_
                                clear C
                                rintro e w11 ⟨rfl, n11, rfl⟩
                                go_wp2
                                go_meet
                                case rel => exact ⟨_, rfl⟩
                          case rest =>
                            obtain ⟨n12, rfl⟩ := hcut
                            have HS12 : Hid (∀ i, i < nS → (w10.drewN n12).rowIs (N + 1 + i) 70 4 (segf (dp i) (cn i))) := HS10
                            have Rs : (w10.drewN n12).rowIs _ _ _ _ := Rs
                            have Bz12 := below_drewN Bz10 n12
                            generalize w10.drewN n12 = w12 at *
                            clear HS10 HU10 Bz10
                            go_wp2
                            go_loopw [50] (fun t wr => ∃ k n : Nat, k ≤ nS ∧ t = .int .i64 k ∧ wr = w12.drewN n) (fun t _ => nS - (intOf t).toNat)
                            case atStart => exact ⟨0, 0, Nat.zero_le _, rfl, rfl⟩
                            case round =>
                              obtain ⟨k7, n7, hk7, rfl, rfl⟩ := hrel
                              by_cases hlt7 : k7 < nS
                              · obtain ⟨b0, o0, rfl, hb0, hc0⟩ := s0.below Bz12 (by omega)
                                obtain ⟨b1, o1, rfl, hb1, hc1⟩ := s1.below Bz12 (by omega)
                                have g0 := hc0 k7 hlt7
                                have g1 := hc1 k7 hlt7
                                have q1 := Rs.cell hlt7
                                have S7 : (w12.drewN n7).rowIs (N + 1 + k7) 70 4 (segf (dp k7) (cn k7)) := HS12.out k7 hlt7
                                clear hc0 hc1 s0 s1 s2
                                go_wp2_with fail
                                have C := segstate29 (N + 1 + k7) (dp k7) (cn k7) (w12.drewN n7) S7
                                refine C.mono ?_
                                clear C
                                rintro e w13 ⟨rfl, n13, rfl⟩
                                go_wp2
                                go_roundw
                                case rel => exact ⟨k7 + 1, _, by omega, by go_num, rfl⟩
                                case measure => simp [intOf]; omega
                              · go_wp2
                                go_ret
                                refine ⟨rfl, ?_⟩
                                have BB := below_drewN Bz12 n7
                                rw [HN.out]
                                exact B1.trans BB

end Go.Proofs.Qxb6601511a
