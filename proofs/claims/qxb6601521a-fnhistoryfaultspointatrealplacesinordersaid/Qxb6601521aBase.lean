/-
  The plain words for a history in memory. Own work for the seat b6601521a.
-/
import Derived.Test.Qxb6601521aRows
import Derived.WalkKit
import Derived.WalkSpells
import Derived.WalkLawsBesides
import Derived.BigRegion
import Derived.BigQuiet
import Derived.Deep.OwnRows
import Derived.Deep.LoopGhost
import Derived.Deep.CutRange
import Derived.Deep.DeepCutAuto
import Derived.Deep.Light
namespace Go.Proofs.Qxb6601521a
open Go.RowKit

/-- is this role 'tool', 'assistant'? -/
def toolB (r : ByteArray) : Bool := r.toList == [116, 111, 111, 108]
def asstB (r : ByteArray) : Bool := r.toList == [97, 115, 115, 105, 115, 116, 97, 110, 116]
/-- one text is the other -/
def eqB (a b : ByteArray) : Bool := a.toList == b.toList

/-- the call answers a bool -/
def AnsB (e : Ending) : Prop := ∃ b, e = .returned (.bool b)

/-- what the laws look at in a message: its role, the id of the call it answers, its calls' ids -/
structure Msg where
  role : ByteArray
  tcid : ByteArray
  nc : Nat
  cid : Nat → ByteArray
  nt : Nat
  np : Nat

/-- n calls of four texts each lie behind the address a -/
def CallsAt (w : World) (a : Option Addr) (n : Nat) (cid : Nat → ByteArray) : Prop :=
  0 < n → ∃ b o, a = some ⟨b, o, none⟩ ∧ ∀ j, j < n → ∃ s1 s2 s3, w.cell? ⟨b, o + j * 4, none⟩ = some (.string (cid j)) ∧
    w.cell? ⟨b, o + j * 4 + 1, none⟩ = some (.string s1) ∧ w.cell? ⟨b, o + j * 4 + 2, none⟩ = some (.string s2) ∧ w.cell? ⟨b, o + j * 4 + 3, none⟩ = some (.string s3)

/-- a message of eight cells at block b, offset o -/
def MsgAt (w : World) (b o : Nat) (m : Msg) : Prop :=
  ∃ s1 s7 f a2 c2 a5 n5 c5 a6 n6 c6, w.cell? ⟨b, o, none⟩ = some (.string m.role) ∧ w.cell? ⟨b, o + 1, none⟩ = some (.string s1) ∧ w.cell? ⟨b, o + 2, none⟩ = some (.slice a2 m.nc c2) ∧
    w.cell? ⟨b, o + 3, none⟩ = some (.string m.tcid) ∧ w.cell? ⟨b, o + 4, none⟩ = some (.bool f) ∧ w.cell? ⟨b, o + 5, none⟩ = some (.slice a5 n5 c5) ∧ w.cell? ⟨b, o + 6, none⟩ = some (.slice a6 n6 c6) ∧
    w.cell? ⟨b, o + 7, none⟩ = some (.string s7) ∧ CallsAt w a2 m.nc m.cid

/-- n messages lie behind the address a -/
def Msgs (w : World) (a : Option Addr) (n : Nat) (M : Nat → Msg) : Prop :=
  0 < n → ∃ b o, a = some ⟨b, o, none⟩ ∧ ∀ i, i < n → MsgAt w b (o + i * 8) (M i)

/-- n elements of 'size' texts each lie behind the address a; nil has none -/
def StrsAt (w : World) (a : Option Addr) (n size : Nat) : Prop :=
  (a = none → n = 0) ∧ (0 < n → ∃ b o, a = some ⟨b, o, none⟩ ∧ ∀ j, j < n → ∀ c, c < size → ∃ s, w.cell? ⟨b, o + j * size + c, none⟩ = some (.string s))

/-- a message as it comes in: all that it leads to -/
def HMsgAt (w : World) (b o : Nat) (m : Msg) : Prop :=
  ∃ s1 s7 f a2 c2 a5 c5 a6 c6, w.cell? ⟨b, o, none⟩ = some (.string m.role) ∧ w.cell? ⟨b, o + 1, none⟩ = some (.string s1) ∧ w.cell? ⟨b, o + 2, none⟩ = some (.slice a2 m.nc c2) ∧
    w.cell? ⟨b, o + 3, none⟩ = some (.string m.tcid) ∧ w.cell? ⟨b, o + 4, none⟩ = some (.bool f) ∧ w.cell? ⟨b, o + 5, none⟩ = some (.slice a5 m.nt c5) ∧ w.cell? ⟨b, o + 6, none⟩ = some (.slice a6 m.np c6) ∧
    w.cell? ⟨b, o + 7, none⟩ = some (.string s7) ∧ CallsAt w a2 m.nc m.cid ∧ (a2 = none → m.nc = 0) ∧ StrsAt w a5 m.nt 3 ∧ StrsAt w a6 m.np 2

/-- the history that came in -/
def HMsgs (w : World) (a : Option Addr) (n : Nat) (M : Nat → Msg) : Prop :=
  (a = none → n = 0) ∧ (0 < n → ∃ b o, a = some ⟨b, o, none⟩ ∧ ∀ i, i < n → HMsgAt w b (o + i * 8) (M i))

theorem cell_ext {w w' : World} {H : Nat} (hH : w.heap.size ≤ H) (hb : Below H w w') {a : Addr} {v : Value} (h : w.cell? a = some v) : w'.cell? a = some v :=
  (hb.cell (Nat.lt_of_lt_of_le (block_lt_of_cell h) hH)).trans h

theorem CallsAt.ext {w w' : World} {H : Nat} (hH : w.heap.size ≤ H) (hb : Below H w w') {a : Option Addr} {n : Nat} {cid : Nat → ByteArray} (h : CallsAt w a n cid) : CallsAt w' a n cid := fun hn => by
  obtain ⟨b, o, ha, hc⟩ := h hn
  refine ⟨b, o, ha, fun j hj => ?_⟩
  obtain ⟨s1, s2, s3, e0, e1, e2, e3⟩ := hc j hj
  exact ⟨s1, s2, s3, cell_ext hH hb e0, cell_ext hH hb e1, cell_ext hH hb e2, cell_ext hH hb e3⟩

theorem MsgAt.ext {w w' : World} {H : Nat} (hH : w.heap.size ≤ H) (hb : Below H w w') {b o : Nat} {m : Msg} (h : MsgAt w b o m) : MsgAt w' b o m := by
  obtain ⟨s1, s7, f, a2, c2, a5, n5, c5, a6, n6, c6, e0, e1, e2, e3, e4, e5, e6, e7, hc⟩ := h
  exact ⟨s1, s7, f, a2, c2, a5, n5, c5, a6, n6, c6, cell_ext hH hb e0, cell_ext hH hb e1, cell_ext hH hb e2, cell_ext hH hb e3, cell_ext hH hb e4, cell_ext hH hb e5, cell_ext hH hb e6, cell_ext hH hb e7, hc.ext hH hb⟩

theorem Msgs.ext {w w' : World} {H : Nat} (hH : w.heap.size ≤ H) (hb : Below H w w') {a : Option Addr} {n : Nat} {M : Nat → Msg} (h : Msgs w a n M) : Msgs w' a n M := fun hn => by
  obtain ⟨b, o, ha, hc⟩ := h hn
  exact ⟨b, o, ha, fun i hi => (hc i hi).ext hH hb⟩

theorem StrsAt.ext {w w' : World} {H : Nat} (hH : w.heap.size ≤ H) (hb : Below H w w') {a : Option Addr} {n size : Nat} (h : StrsAt w a n size) : StrsAt w' a n size := ⟨h.1, fun hn => by
  obtain ⟨b, o, ha, hc⟩ := h.2 hn
  refine ⟨b, o, ha, fun j hj c hcc => ?_⟩
  obtain ⟨s, e⟩ := hc j hj c hcc
  exact ⟨s, cell_ext hH hb e⟩⟩

theorem HMsgAt.ext {w w' : World} {H : Nat} (hH : w.heap.size ≤ H) (hb : Below H w w') {b o : Nat} {m : Msg} (h : HMsgAt w b o m) : HMsgAt w' b o m := by
  obtain ⟨s1, s7, f, a2, c2, a5, c5, a6, c6, e0, e1, e2, e3, e4, e5, e6, e7, hc, hn, ht, hp⟩ := h
  exact ⟨s1, s7, f, a2, c2, a5, c5, a6, c6, cell_ext hH hb e0, cell_ext hH hb e1, cell_ext hH hb e2, cell_ext hH hb e3, cell_ext hH hb e4, cell_ext hH hb e5, cell_ext hH hb e6, cell_ext hH hb e7, hc.ext hH hb, hn, ht.ext hH hb, hp.ext hH hb⟩

theorem HMsgs.ext {w w' : World} {H : Nat} (hH : w.heap.size ≤ H) (hb : Below H w w') {a : Option Addr} {n : Nat} {M : Nat → Msg} (h : HMsgs w a n M) : HMsgs w' a n M := ⟨h.1, fun hn => by
  obtain ⟨b, o, ha, hc⟩ := h.2 hn
  exact ⟨b, o, ha, fun i hi => (hc i hi).ext hH hb⟩⟩

/-- what the functions of the package read of it -/
theorem HMsgs.msgs {w : World} {a : Option Addr} {n : Nat} {M : Nat → Msg} (h : HMsgs w a n M) : Msgs w a n M := fun hn => by
  obtain ⟨b, o, ha, hc⟩ := h.2 hn
  refine ⟨b, o, ha, fun i hi => ?_⟩
  obtain ⟨s1, s7, f, a2, c2, a5, c5, a6, c6, e0, e1, e2, e3, e4, e5, e6, e7, hcs, _⟩ := hc i hi
  exact ⟨s1, s7, f, a2, c2, a5, _, c5, a6, _, c6, e0, e1, e2, e3, e4, e5, e6, e7, hcs⟩

end Go.Proofs.Qxb6601521a
