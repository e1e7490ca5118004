/-
  Plain words; contracts: the clones, the closers, the stack's prefix, zzBytes. Own work for the seat b6601609a.
-/
import Derived.Test.Qxb6601609aRows
import Derived.WalkKit
import Derived.WalkSpells
import Derived.WalkLawsBesides
import Derived.BigRegion
import Derived.BigQuiet
import Derived.Deep.OwnRows
import Derived.Deep.LoopGhost
import Derived.Deep.CutRange
import Derived.Deep.DeepCutAuto
import Derived.Deep.Light
namespace Go.Proofs.Qxb6601609a
open Go.RowKit Go.Deep

theorem cell_ext {w w' : World} {H : Nat} (hH : w.heap.size ≤ H) (hb : Below H w w') {a : Addr} {v : Value} (h : w.cell? a = some v) : w'.cell? a = some v :=
  (hb.cell (Nat.lt_of_lt_of_le (block_lt_of_cell h) hH)).trans h

/-- n cells behind the address a -/
def At (w : World) (a : Option Addr) (n : Nat) (f : Nat → Value) : Prop := 0 < n → ∃ b o, a = some ⟨b, o, none⟩ ∧ ∀ i, i < n → w.cell? ⟨b, o + i, none⟩ = some (f i)
/-- bytes, bools -/
def u8s (z : Nat → Int) : Nat → Value := fun i => .int .u8 (z i)
def bos (q : Nat → Bool) : Nat → Value := fun i => .bool (q i)

theorem At.ext {w w' : World} {H : Nat} (hH : w.heap.size ≤ H) (hb : Below H w w') {a : Option Addr} {n : Nat} {f : Nat → Value} (h : At w a n f) : At w' a n f := fun hn => by
  obtain ⟨b, o, ha, hc⟩ := h hn
  exact ⟨b, o, ha, fun i hi => cell_ext hH hb (hc i hi)⟩
theorem At.less {w : World} {a : Option Addr} {n : Nat} {f : Nat → Value} (h : At w a n f) (m : Nat) (hm : m ≤ n) : At w a m f := fun h0 => by
  obtain ⟨b, o, ha, hc⟩ := h (by omega)
  exact ⟨b, o, ha, fun i hi => hc i (by omega)⟩
theorem At.get {w : World} {a : Option Addr} {n : Nat} {f : Nat → Value} (h : At w a n f) (i : Nat) (hi : i < n) : ∃ b o, a = some ⟨b, o, none⟩ ∧ w.cell? ⟨b, o + i, none⟩ = some (f i) := by
  obtain ⟨b, o, ha, hc⟩ := h (by omega)
  exact ⟨b, o, ha, hc i hi⟩
theorem at_row {w : World} {B : Nat} {t : TypeId} {n : Nat} {f : Nat → Value} (h : w.rowIs B t n f) : At w (some ⟨B, 0, none⟩) n f := fun _ => ⟨B, 0, rfl, fun i hi => by
  have := h.cell hi
  rw [Nat.zero_add]; exact this⟩

theorem Try.info5 : (Try.prog.info? 5).map (fun i => (i.zero, i.size, i.bytes)) = some (some (.int .u8 0), 1, 1) := by kernel_rfl
theorem Try.info4 : (Try.prog.info? 4).map (fun i => (i.zero, i.size, i.bytes)) = some (some (.bool false), 1, 1) := by kernel_rfl
theorem run_make24 (n : Nat) (hn : n ≤ 1048576) (kl kc : IntKind) (w : World) :
    (Instr.makeSlice 24 (.int kl (n : Int)) (.int kc (n : Int))).run Try.prog w = .ok (.slice (some ⟨w.heap.size, 0, none⟩) n n) (w.alloc (.cells (madeCells #[.int .u8 0] n) 5)) :=
  run_make_row' (P := Try.prog) 24 5 (.int .u8 0) 1 Try.underlying24 Try.info5 rfl kl kc n (by omega) (by omega) w
theorem run_make32 (n : Nat) (hn : n ≤ 1048576) (kl kc : IntKind) (w : World) :
    (Instr.makeSlice 32 (.int kl (n : Int)) (.int kc (n : Int))).run Try.prog w = .ok (.slice (some ⟨w.heap.size, 0, none⟩) n n) (w.alloc (.cells (madeCells #[.bool false] n) 4)) :=
  run_make_row' (P := Try.prog) 32 4 (.bool false) 1 Try.underlying32 Try.info4 rfl kl kc n (by omega) (by omega) w

set_option maxHeartbeats 1000000 in
theorem clone11 (a : Option Addr) (n c : Nat) (z : Nat → Int) (w : World) (hn : n ≤ 1048576) (h0 : a = none → n = 0) (hA : At w a n (u8s z)) :
    Calls Try.prog 11 #[.slice a n c] w fun e w' => ∃ a', e = .returned (.slice a' n n) ∧ Below w.heap.size w w' ∧ At w' a' n (u8s z) := by
  have e24 := fun w a n c n' c' => Lib.run_eql_slice_nil (P := Try.prog) w 24 _ a n c n' c' Try.underlying24
  cases a with
  | none =>
    obtain rfl := h0 rfl
    go_enter Try.func11, Try.ntmps11
    go_wp2
    go_ret
    exact ⟨_, rfl, Below.refl _ _, fun h => by omega⟩
  | some ad =>
    have hmk := run_make24 n hn
    have HA : Hid (At w (some ad) n (u8s z)) := hA
    have R := World.rowIs_made w (.int .u8 0) n 5
    have B1 := (Below.refl w.heap.size w).alloc (Nat.le_refl _) (.cells (madeCells #[.int .u8 0] n) 5)
    clear hA h0
    go_enter Try.func11, Try.ntmps11
    go_upto_region 4 with (fail)
    generalize w.alloc (.cells (madeCells #[.int .u8 0] n) 5) = w1 at *
    clear hmk e24
    go_wp2
    go_loopw [4] (fun t wr => ∃ k : Nat, k ≤ n ∧ t = .int .i64 k ∧ Below w.heap.size w wr ∧ wr.rowIs w.heap.size 5 n (fun i => .int .u8 (if i < k then z i else 0))) (fun t _ => n - (intOf t).toNat)
    case atStart => exact ⟨0, Nat.zero_le _, rfl, B1, R.congr fun o _ => by simp⟩
    case round =>
      obtain ⟨k, hk, rfl, hb, hR⟩ := hrel
      clear R B1
      by_cases hlt : k < n
      · obtain ⟨b, o, eb, hc⟩ := HA.out.get k hlt
        injection eb with eb
        subst eb
        have hc : w.cell? ⟨b, o + k, none⟩ = some (.int .u8 (z k)) := hc
        have hc := cell_ext (Nat.le_refl _) hb hc
        have q0 := hR.cell hlt
        have z0 := hR.frozen k
        have R2 := hR.set k (.int .u8 (z k))
        go_wp2
        go_roundw
        case rel =>
          refine ⟨k + 1, by omega, by go_num, hb.setCell (Nat.le_refl _) _, R2.congr fun i hi => ?_⟩
          by_cases e : i = k
          · subst e; simp
          · have : i < k + 1 ↔ i < k := by omega
            simp [e, this]
        case measure => simp [intOf]; omega
      · obtain rfl : k = n := by omega
        go_wp2
        go_ret
        refine ⟨_, rfl, hb, at_row (hR.congr fun i hi => ?_)⟩
        simp [hi, u8s]

set_option maxHeartbeats 1000000 in
theorem clone22 (a : Option Addr) (n c : Nat) (z : Nat → Bool) (w : World) (hn : n ≤ 1048576) (h0 : a = none → n = 0) (hA : At w a n (bos z)) :
    Calls Try.prog 22 #[.slice a n c] w fun e w' => ∃ a', e = .returned (.slice a' n n) ∧ Below w.heap.size w w' ∧ At w' a' n (bos z) := by
  have e32 := fun w a n c n' c' => Lib.run_eql_slice_nil (P := Try.prog) w 32 _ a n c n' c' Try.underlying32
  cases a with
  | none =>
    obtain rfl := h0 rfl
    go_enter Try.func22, Try.ntmps22
    go_wp2
    go_ret
    exact ⟨_, rfl, Below.refl _ _, fun h => by omega⟩
  | some ad =>
    have hmk := run_make32 n hn
    have HA : Hid (At w (some ad) n (bos z)) := hA
    have R := World.rowIs_made w (.bool false) n 4
    have B1 := (Below.refl w.heap.size w).alloc (Nat.le_refl _) (.cells (madeCells #[.bool false] n) 4)
    clear hA h0
    go_enter Try.func22, Try.ntmps22
    go_upto_region 4 with (fail)
    generalize w.alloc (.cells (madeCells #[.bool false] n) 4) = w1 at *
    clear hmk e32
    go_wp2
    go_loopw [4] (fun t wr => ∃ k : Nat, k ≤ n ∧ t = .int .i64 k ∧ Below w.heap.size w wr ∧ wr.rowIs w.heap.size 4 n (fun i => .bool (if i < k then z i else false))) (fun t _ => n - (intOf t).toNat)
    case atStart => exact ⟨0, Nat.zero_le _, rfl, B1, R.congr fun o _ => by simp⟩
    case round =>
      obtain ⟨k, hk, rfl, hb, hR⟩ := hrel
      clear R B1
      by_cases hlt : k < n
      · obtain ⟨b, o, eb, hc⟩ := HA.out.get k hlt
        injection eb with eb
        subst eb
        have hc : w.cell? ⟨b, o + k, none⟩ = some (.bool (z k)) := hc
        have hc := cell_ext (Nat.le_refl _) hb hc
        have q0 := hR.cell hlt
        have z0 := hR.frozen k
        have R2 := hR.set k (.bool (z k))
        go_wp2
        go_roundw
        case rel =>
          refine ⟨k + 1, by omega, by go_num, hb.setCell (Nat.le_refl _) _, R2.congr fun i hi => ?_⟩
          by_cases e : i = k
          · subst e; simp
          · have : i < k + 1 ↔ i < k := by omega
            simp [e, this]
        case measure => simp [intOf]; omega
      · obtain rfl : k = n := by omega
        go_wp2
        go_ret
        refine ⟨_, rfl, hb, at_row (hR.congr fun i hi => ?_)⟩
        simp [hi, bos]

/-- the byte that closes what c opens; 0: it opens nothing -/
def clo (c : Int) : Int := if c = 123 then 125 else if c = 91 then 93 else if c = 40 then 41 else if c = 60 then 62 else 0

set_option maxHeartbeats 1000000 in
theorem closer27 (c : Int) (w : World) : Calls Try.prog 27 #[.int .u8 c] w fun e w' => e = .returned (.int .u8 (clo c)) ∧ w' = w := by
  by_cases h1 : c = 123
  · subst h1
    go_enter Try.func27, Try.ntmps27
    go_wp2
    go_ret
    exact ⟨rfl, rfl⟩
  by_cases h2 : c = 91
  · subst h2
    go_enter Try.func27, Try.ntmps27
    go_wp2
    go_ret
    exact ⟨rfl, rfl⟩
  by_cases h3 : c = 40
  · subst h3
    go_enter Try.func27, Try.ntmps27
    go_wp2
    go_ret
    exact ⟨rfl, rfl⟩
  by_cases h4 : c = 60
  · subst h4
    go_enter Try.func27, Try.ntmps27
    go_wp2
    go_ret
    exact ⟨rfl, rfl⟩
  have hc : Hid (clo c = 0) := by show clo c = 0; unfold clo; rw [if_neg h1, if_neg h2, if_neg h3, if_neg h4]
  have b1 : (c == 123) = false := by simpa using h1
  have b2 : (c == 91) = false := by simpa using h2
  have b3 : (c == 40) = false := by simpa using h3
  have b4 : (c == 60) = false := by simpa using h4
  go_enter Try.func27, Try.ntmps27
  go_wp2
  go_ret
  exact ⟨by rw [hc.out]; rfl, rfl⟩

set_option maxHeartbeats 1000000 in
theorem model17 (c : Int) (w : World) : Calls Try.prog 17 #[.int .u8 c] w fun e w' => e = .returned (.int .u8 (clo c)) ∧ w' = w := by
  go_enter Try.func17, Try.ntmps17
  go_wp2
  go_loopg [3] 4 (fun gk t wr => ∃ k : Nat, k ≤ 4 ∧ 4 ≤ k + gk ∧ t = .int .i64 (2 * k) ∧ Hid ((0 < k → c ≠ 123) ∧ (1 < k → c ≠ 91) ∧ (2 < k → c ≠ 40) ∧ (3 < k → c ≠ 60)) ∧ wr = w)
  case atStart => exact ⟨0, by omega, by omega, rfl, ⟨fun h => by omega, fun h => by omega, fun h => by omega, fun h => by omega⟩, rfl⟩
  case round =>
    obtain ⟨k, hk, hgk, rfl, hno, rfl⟩ := hrel
    have hk5 : k = 0 ∨ k = 1 ∨ k = 2 ∨ k = 3 ∨ k = 4 := by omega
    rcases hk5 with rfl | rfl | rfl | rfl | rfl
    · by_cases hc : c = 123
      · subst hc
        clear hno
        go_wp2
        go_ret
        exact ⟨rfl, rfl⟩
      · have hcb : ((((⟨#[123, 125, 91, 93, 40, 41, 60, 62]⟩ : ByteArray)[0]).toNat : Int) == c) = false := by
          show ((123 : Int) == c) = false
          simp; omega
        go_wp2
        go_roundg 3
        case measure => omega
        case rel => exact ⟨1, by omega, by omega, by go_num, by
                      obtain ⟨n1, n2, n3, n4⟩ := hno.out
                      exact ⟨fun h => hc, fun h => absurd h (by omega), fun h => absurd h (by omega), fun h => absurd h (by omega)⟩, by first | rfl | trivial⟩
    · by_cases hc : c = 91
      · subst hc
        clear hno
        go_wp2
        go_ret
        exact ⟨rfl, rfl⟩
      · have hcb : ((((⟨#[123, 125, 91, 93, 40, 41, 60, 62]⟩ : ByteArray)[2]).toNat : Int) == c) = false := by
          show ((91 : Int) == c) = false
          simp; omega
        go_wp2
        go_roundg 2
        case measure => omega
        case rel => exact ⟨2, by omega, by omega, by go_num, by
                      obtain ⟨n1, n2, n3, n4⟩ := hno.out
                      exact ⟨fun h => n1 (by omega), fun h => hc, fun h => absurd h (by omega), fun h => absurd h (by omega)⟩, by first | rfl | trivial⟩
    · by_cases hc : c = 40
      · subst hc
        clear hno
        go_wp2
        go_ret
        exact ⟨rfl, rfl⟩
      · have hcb : ((((⟨#[123, 125, 91, 93, 40, 41, 60, 62]⟩ : ByteArray)[4]).toNat : Int) == c) = false := by
          show ((40 : Int) == c) = false
          simp; omega
        go_wp2
        go_roundg 1
        case measure => omega
        case rel => exact ⟨3, by omega, by omega, by go_num, by
                      obtain ⟨n1, n2, n3, n4⟩ := hno.out
                      exact ⟨fun h => n1 (by omega), fun h => n2 (by omega), fun h => hc, fun h => absurd h (by omega)⟩, by first | rfl | trivial⟩
    · by_cases hc : c = 60
      · subst hc
        clear hno
        go_wp2
        go_ret
        exact ⟨rfl, rfl⟩
      · have hcb : ((((⟨#[123, 125, 91, 93, 40, 41, 60, 62]⟩ : ByteArray)[6]).toNat : Int) == c) = false := by
          show ((60 : Int) == c) = false
          simp; omega
        go_wp2
        go_roundg 0
        case measure => omega
        case rel => exact ⟨4, by omega, by omega, by go_num, by
                      obtain ⟨n1, n2, n3, n4⟩ := hno.out
                      exact ⟨fun h => n1 (by omega), fun h => n2 (by omega), fun h => n3 (by omega), fun h => hc⟩, by first | rfl | trivial⟩
    · have hcl : Hid (clo c = 0) := by
        obtain ⟨n1, n2, n3, n4⟩ := hno.out
        show clo c = 0
        unfold clo
        rw [if_neg (n1 (by omega)), if_neg (n2 (by omega)), if_neg (n3 (by omega)), if_neg (n4 (by omega))]
      clear hno
      go_wp2
      go_ret
      exact ⟨by rw [hcl.out]; rfl, rfl⟩

set_option maxHeartbeats 1000000 in
theorem prefix23 (a0 a1 a2 a3 : Option Addr) (n0 n1 n2 n3 c0 c1 c2 c3 n : Nat) (z : Nat → Int) (q : Nat → Bool) (w : World) (hn : n ≤ 1048576) (l0 : n ≤ n0) (l1 : n ≤ n1) (l2 : n ≤ n2) (l3 : n ≤ n3)
    (h0 : At w a0 n (u8s z)) (h1 : At w a1 n (bos q)) (h2 : At w a2 n (u8s z)) (h3 : At w a3 n (bos q)) :
    Calls Try.prog 23 #[.slice a0 n0 c0, .slice a1 n1 c1, .slice a2 n2 c2, .slice a3 n3 c3, .int .i64 n] w fun e w' => e = .returned (.bool true) ∧ Below w.heap.size w w' := by
  have HA : Hid (At w a0 n (u8s z) ∧ At w a1 n (bos q) ∧ At w a2 n (u8s z) ∧ At w a3 n (bos q)) := ⟨h0, h1, h2, h3⟩
  clear h0 h1 h2 h3
  have d0 : decide (n0 < n) = false := by simp; omega
  have d1 : decide (n1 < n) = false := by simp; omega
  have d2 : decide (n2 < n) = false := by simp; omega
  have d3 : decide (n3 < n) = false := by simp; omega
  go_enter Try.func23, Try.ntmps23
  go_wp2
  go_loopw [11] (fun t wr => ∃ k : Nat, k ≤ n ∧ t = .int .i64 k ∧ Below w.heap.size w wr) (fun t _ => n - (intOf t).toNat)
  case atStart => exact ⟨0, Nat.zero_le _, rfl, Below.refl _ _⟩
  case round =>
    obtain ⟨k, hk, rfl, hb⟩ := hrel
    by_cases hlt : k < n
    · obtain ⟨b0, o0, rfl, e0⟩ := HA.out.1.get k hlt
      obtain ⟨b1, o1, rfl, e1⟩ := HA.out.2.1.get k hlt
      obtain ⟨b2, o2, rfl, e2⟩ := HA.out.2.2.1.get k hlt
      obtain ⟨b3, o3, rfl, e3⟩ := HA.out.2.2.2.get k hlt
      have e0 : w.cell? ⟨b0, o0 + k, none⟩ = some (.int .u8 (z k)) := e0
      have e1 : w.cell? ⟨b1, o1 + k, none⟩ = some (.bool (q k)) := e1
      have e2 : w.cell? ⟨b2, o2 + k, none⟩ = some (.int .u8 (z k)) := e2
      have e3 : w.cell? ⟨b3, o3 + k, none⟩ = some (.bool (q k)) := e3
      have e0 := cell_ext (Nat.le_refl _) hb e0
      have e1 := cell_ext (Nat.le_refl _) hb e1
      have e2 := cell_ext (Nat.le_refl _) hb e2
      have e3 := cell_ext (Nat.le_refl _) hb e3
      go_wp2
      go_quiet (fail)
      go_wp2
      go_roundw
      case rel => exact ⟨k + 1, by omega, by go_num, below_drewN hb _⟩
      case measure => simp [intOf]; omega
    · go_wp2
      go_ret
      exact ⟨rfl, hb⟩

/-- the call answers a bool -/
def AnsB (e : Ending) : Prop := ∃ b, e = .returned (.bool b)

set_option maxHeartbeats 1000000 in
theorem bytes26 (a0 a1 a2 : Option Addr) (n0 n1 n2 c0 c1 c2 : Nat) (v3 v4 v5 v6 v7 v8 v9 : Value) (w : World) (l0 : n0 ≤ 9223372036854775807) (l1 : n1 ≤ 9223372036854775807) (l2 : n2 ≤ 9223372036854775807) :
    Calls Try.prog 26 #[.slice a0 n0 c0, .slice a1 n1 c1, .slice a2 n2 c2, v3, v4, v5, v6, v7, v8, v9] w fun e w' => AnsB e ∧ w' = w := by
  by_cases h0 : 1048576 < n0
  · go_enter Try.func26, Try.ntmps26
    go_wp2
    go_ret
    exact ⟨⟨_, rfl⟩, rfl⟩
  by_cases h1 : 1048576 < n1
  · go_enter Try.func26, Try.ntmps26
    go_wp2
    go_ret
    exact ⟨⟨_, rfl⟩, rfl⟩
  by_cases h2 : 1048576 < n0 + n1
  · go_enter Try.func26, Try.ntmps26
    go_wp2
    go_ret
    exact ⟨⟨_, rfl⟩, rfl⟩
  by_cases h3 : 1048576 < n2
  · go_enter Try.func26, Try.ntmps26
    go_wp2
    go_ret
    exact ⟨⟨_, rfl⟩, rfl⟩
  by_cases h4 : 1048576 < n0 + n1 + n2
  · go_enter Try.func26, Try.ntmps26
    go_wp2
    go_ret
    exact ⟨⟨_, rfl⟩, rfl⟩
  · go_enter Try.func26, Try.ntmps26
    go_wp2
    go_ret
    exact ⟨⟨_, rfl⟩, rfl⟩

end Go.Proofs.Qxb6601609a
