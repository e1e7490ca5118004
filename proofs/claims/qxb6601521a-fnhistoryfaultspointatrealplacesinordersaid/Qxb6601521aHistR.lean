/-
  The argument []ZMsg, read out of the row: what lies in memory.
-/
import Derived.Test.Qxb6601521aBase
import Derived.Deep.Slices
import Derived.Deep.Fields
import Derived.ProofKit
namespace Go.Proofs.Qxb6601521a
open Go.RowKit Go.Deep Go.ChangeShapes Go.WideShapes

section
variable {H : Type} {enc : TypeId × Value → H} {P : Program} {w : World} {base : Nat} {spare : Nat → Bool} {held : Bool}

/-- a slice of structs of one-cell fields: cell by cell -/
theorem slice_fields {t e : TypeId} {fs : Array Field} {fuel : Nat} {cs : List Value} {x : DataW H × List MemPlace} (ht : P.underlying t = some (.slice e)) (hs : P.underlying e = some (.struct fs))
    (hone : ∀ (i : Nat) (f : Field), fs[i]? = some f → f.offset = i ∧ P.cellsOf f.type = 1) (hC : P.cellsOf e = fs.size) (hpos : 0 < fs.size) (h : DataW.trod enc P w base spare held fuel t cs = some x) :
    cs = [.slice none 0 0] ∨
    ∃ (a : Addr) (len cap : Nat), cs = [.slice (some a) len cap] ∧ len ≤ maxLen ∧ (0 < len → ∃ b o, a = ⟨b, o, none⟩ ∧ ∀ i, i < len → ∃ n, ∀ (j : Nat) (f : Field), fs[j]? = some f →
      ∃ v y, w.cell? ⟨b, o + i * fs.size + j, none⟩ = some v ∧ DataW.trod enc P w base spare held n f.type [v] = some y) := by
  rcases open_slice ht h with ⟨h0, _⟩ | ⟨a, len, cap, m, n, D, Pl, rfl, hb, hl, hm, hmm, _, hel⟩
  · exact .inl h0
  refine .inr ⟨a, len, cap, rfl, by omega, fun hlen => ?_⟩
  have hlm : len ≤ m := by rw [hmm]; split <;> omega
  obtain ⟨b, o, spot⟩ := a
  have hspot : spot = none := by
    obtain ⟨cs', hcells, _⟩ := hel 0 (by omega)
    obtain ⟨_, hlen', hcell⟩ := World.cells?_some hcells
    rw [hC] at hlen' hcell
    have h0 := hcell 0 hpos
    rw [List.getElem?_eq_getElem (by omega)] at h0
    simpa [Addr.add] using World.cell?_spot h0
  subst hspot
  refine ⟨b, o, rfl, fun i hi => ?_⟩
  obtain ⟨cs', hcells, hy⟩ := hel i (by omega)
  obtain ⟨_, hlen', hcell⟩ := World.cells?_some hcells
  rw [hC] at hlen' hcell
  obtain ⟨xs, n', _, _, _, hxl, hf⟩ := DataW.trod_struct hs hy
  refine ⟨n', fun j f hj => ?_⟩
  have hlt : j < fs.size := (Array.getElem?_eq_some_iff.1 hj).1
  obtain ⟨ho, hc1⟩ := hone j f hj
  have g := hf j f hj
  rw [ho, hc1] at g
  rw [take1_drop cs' j undef (by omega), List.getElem?_eq_getElem (by omega)] at g
  refine ⟨cs'.getD j undef, _, ?_, g⟩
  have := hcell j hlt
  rw [add_add, add_plain, List.getElem?_eq_getElem (by omega)] at this
  rw [← Nat.add_assoc] at this
  rw [this]
  simp [List.getD, List.getElem?_eq_getElem (show j < cs'.length by omega)]
end

section
variable {H : Type} {enc : TypeId × Value → H} {w : World} {base : Nat} {spare : Nat → Bool} {held : Bool}

theorem calls_of {fuel : Nat} {v : Value} {y : DataW H × List MemPlace} (h : DataW.trod enc Try.prog w base spare held fuel 34 [v] = some y) :
    ∃ a n c cid, v = .slice a n c ∧ n ≤ maxLen ∧ (a = none → n = 0) ∧ CallsAt w a n cid := by
  rcases slice_fields Try.underlying34 Try.underlying52 (hone_of (by kernel_rfl)) (by kernel_rfl) (by decide) h with h0 | ⟨a, len, cap, h1, h2, h3⟩
  · injection h0 with h0; exact ⟨none, 0, 0, fun _ => ⟨#[]⟩, h0, by omega, fun _ => rfl, fun h => by omega⟩
  · injection h1 with h1
    by_cases hl : 0 < len
    · obtain ⟨b, o, rfl, hc⟩ := h3 hl
      have key : ∀ j, ∃ s : ByteArray, j < len → ∃ s1 s2 s3, w.cell? ⟨b, o + j * 4, none⟩ = some (.string s) ∧ w.cell? ⟨b, o + j * 4 + 1, none⟩ = some (.string s1) ∧ w.cell? ⟨b, o + j * 4 + 2, none⟩ = some (.string s2) ∧ w.cell? ⟨b, o + j * 4 + 3, none⟩ = some (.string s3) := fun j => by
        by_cases hj : j < len
        · obtain ⟨n, hf⟩ := hc j hj
          obtain ⟨v0, y0, c0, t0⟩ := hf 0 _ rfl
          obtain ⟨v1, y1, c1, t1⟩ := hf 1 _ rfl
          obtain ⟨v2, y2, c2, t2⟩ := hf 2 _ rfl
          obtain ⟨v3, y3, c3, t3⟩ := hf 3 _ rfl
          obtain ⟨s0, e0, _, _⟩ := DataW.trod_string Try.underlying9 t0
          obtain ⟨s1, e1, _, _⟩ := DataW.trod_string Try.underlying9 t1
          obtain ⟨s2, e2, _, _⟩ := DataW.trod_string Try.underlying9 t2
          obtain ⟨s3, e3, _, _⟩ := DataW.trod_string Try.underlying9 t3
          injection e0 with e0; injection e1 with e1; injection e2 with e2; injection e3 with e3
          subst e0 e1 e2 e3
          exact ⟨s0, fun _ => ⟨s1, s2, s3, c0, c1, c2, c3⟩⟩
        · exact ⟨⟨#[]⟩, fun h => absurd h hj⟩
      exact ⟨_, len, cap, fun j => (key j).choose, h1, h2, (fun h => by cases h), fun _ => ⟨b, o, rfl, fun j hj => (key j).choose_spec hj⟩⟩
    · exact ⟨_, len, cap, fun _ => ⟨#[]⟩, h1, h2, (fun h => by cases h), fun h => absurd h hl⟩
theorem strs3_of {fuel : Nat} {v : Value} {y : DataW H × List MemPlace} (h : DataW.trod enc Try.prog w base spare held fuel 35 [v] = some y) :
    ∃ a n c, v = .slice a n c ∧ n ≤ maxLen ∧ StrsAt w a n 3 := by
  rcases slice_fields Try.underlying35 Try.underlying54 (hone_of (by kernel_rfl)) (by kernel_rfl) (by decide) h with h0 | ⟨a, len, cap, h1, h2, h3⟩
  · injection h0 with h0; exact ⟨none, 0, 0, h0, by omega, fun _ => rfl, fun h => by omega⟩
  · injection h1 with h1
    refine ⟨_, len, cap, h1, h2, (fun h => by cases h), fun hl => ?_⟩
    obtain ⟨b, o, rfl, hc⟩ := h3 hl
    refine ⟨b, o, rfl, fun j hj c hcs => ?_⟩
    obtain ⟨n, hf⟩ := hc j hj
    have hd : c = 0 ∨ c = 1 ∨ c = 2 := by omega
    obtain ⟨v0, y0, c0, t0⟩ := hf 0 _ rfl
    obtain ⟨s0, e0, _, _⟩ := DataW.trod_string Try.underlying9 t0
    injection e0 with e0; subst e0
    obtain ⟨v1, y1, c1, t1⟩ := hf 1 _ rfl
    obtain ⟨s1, e1, _, _⟩ := DataW.trod_string Try.underlying9 t1
    injection e1 with e1; subst e1
    obtain ⟨v2, y2, c2, t2⟩ := hf 2 _ rfl
    obtain ⟨s2, e2, _, _⟩ := DataW.trod_string Try.underlying9 t2
    injection e2 with e2; subst e2
    rcases hd with h | h | h
    · subst h; exact ⟨s0, c0⟩
    · subst h; exact ⟨s1, c1⟩
    · subst h; exact ⟨s2, c2⟩

theorem strs2_of {fuel : Nat} {v : Value} {y : DataW H × List MemPlace} (h : DataW.trod enc Try.prog w base spare held fuel 36 [v] = some y) :
    ∃ a n c, v = .slice a n c ∧ n ≤ maxLen ∧ StrsAt w a n 2 := by
  rcases slice_fields Try.underlying36 Try.underlying56 (hone_of (by kernel_rfl)) (by kernel_rfl) (by decide) h with h0 | ⟨a, len, cap, h1, h2, h3⟩
  · injection h0 with h0; exact ⟨none, 0, 0, h0, by omega, fun _ => rfl, fun h => by omega⟩
  · injection h1 with h1
    refine ⟨_, len, cap, h1, h2, (fun h => by cases h), fun hl => ?_⟩
    obtain ⟨b, o, rfl, hc⟩ := h3 hl
    refine ⟨b, o, rfl, fun j hj c hcs => ?_⟩
    obtain ⟨n, hf⟩ := hc j hj
    have hd : c = 0 ∨ c = 1 := by omega
    obtain ⟨v0, y0, c0, t0⟩ := hf 0 _ rfl
    obtain ⟨s0, e0, _, _⟩ := DataW.trod_string Try.underlying9 t0
    injection e0 with e0; subst e0
    obtain ⟨v1, y1, c1, t1⟩ := hf 1 _ rfl
    obtain ⟨s1, e1, _, _⟩ := DataW.trod_string Try.underlying9 t1
    injection e1 with e1; subst e1
    rcases hd with h | h
    · subst h; exact ⟨s0, c0⟩
    · subst h; exact ⟨s1, c1⟩

/-- THE ARGUMENT: a slice of messages -/
theorem hmsgs_of {fuel : Nat} {v : Value} {y : DataW H × List MemPlace} (h : DataW.trod enc Try.prog w base spare held fuel 22 [v] = some y) :
    ∃ a n c M, v = .slice a n c ∧ n ≤ maxLen ∧ (∀ i, i < n → (M i).nc ≤ maxLen ∧ (M i).nt ≤ maxLen ∧ (M i).np ≤ maxLen) ∧ HMsgs w a n M := by
  rcases slice_fields Try.underlying22 Try.underlying38 (hone_of (by kernel_rfl)) (by kernel_rfl) (by decide) h with h0 | ⟨a, len, cap, h1, h2, h3⟩
  · injection h0 with h0; exact ⟨none, 0, 0, fun _ => ⟨⟨#[]⟩, ⟨#[]⟩, 0, fun _ => ⟨#[]⟩, 0, 0⟩, h0, by omega, (fun i hi => by omega), fun _ => rfl, fun h => by omega⟩
  · injection h1 with h1
    by_cases hl : 0 < len
    · obtain ⟨b, o, rfl, hc⟩ := h3 hl
      have key : ∀ i, ∃ m : Msg, i < len → (m.nc ≤ maxLen ∧ m.nt ≤ maxLen ∧ m.np ≤ maxLen) ∧ HMsgAt w b (o + i * 8) m := fun i => by
        by_cases hi : i < len
        · obtain ⟨n, hf⟩ := hc i hi
          obtain ⟨v0, y0, c0, t0⟩ := hf 0 _ rfl
          obtain ⟨v1, y1, c1, t1⟩ := hf 1 _ rfl
          obtain ⟨v2, y2, c2, t2⟩ := hf 2 _ rfl
          obtain ⟨v3, y3, c3, t3⟩ := hf 3 _ rfl
          obtain ⟨v4, y4, c4, t4⟩ := hf 4 _ rfl
          obtain ⟨v5, y5, c5, t5⟩ := hf 5 _ rfl
          obtain ⟨v6, y6, c6, t6⟩ := hf 6 _ rfl
          obtain ⟨v7, y7, c7, t7⟩ := hf 7 _ rfl
          obtain ⟨s0, e0, _, _⟩ := DataW.trod_string Try.underlying9 t0
          obtain ⟨s1, e1, _, _⟩ := DataW.trod_string Try.underlying9 t1
          obtain ⟨a2, n2, k2, cid, rfl, l2, z2, q2⟩ := calls_of t2
          obtain ⟨s3, e3, _, _⟩ := DataW.trod_string Try.underlying9 t3
          obtain ⟨f4, e4, _⟩ := DataW.trod_bool Try.underlying4 t4
          obtain ⟨a5, n5, k5, rfl, l5, q5⟩ := strs3_of t5
          obtain ⟨a6, n6, k6, rfl, l6, q6⟩ := strs2_of t6
          obtain ⟨s7, e7, _, _⟩ := DataW.trod_string Try.underlying9 t7
          injection e0 with e0; injection e1 with e1; injection e3 with e3; injection e4 with e4; injection e7 with e7
          subst e0 e1 e3 e4 e7
          exact ⟨⟨s0, s3, n2, cid, n5, n6⟩, fun _ => ⟨⟨l2, l5, l6⟩, s1, s7, f4, a2, k2, a5, k5, a6, k6, c0, c1, c2, c3, c4, c5, c6, c7, q2, z2, q5, q6⟩⟩
        · exact ⟨⟨⟨#[]⟩, ⟨#[]⟩, 0, fun _ => ⟨#[]⟩, 0, 0⟩, fun h => absurd h hi⟩
      exact ⟨_, len, cap, fun i => (key i).choose, h1, h2, fun i hi => ((key i).choose_spec hi).1, (fun h => by cases h), fun _ => ⟨b, o, rfl, fun i hi => ((key i).choose_spec hi).2⟩⟩
    · exact ⟨_, len, cap, fun _ => ⟨⟨#[]⟩, ⟨#[]⟩, 0, fun _ => ⟨#[]⟩, 0, 0⟩, h1, h2, (fun i hi => by omega), (fun h => by cases h), fun h => absurd h hl⟩
end

end Go.Proofs.Qxb6601521a
