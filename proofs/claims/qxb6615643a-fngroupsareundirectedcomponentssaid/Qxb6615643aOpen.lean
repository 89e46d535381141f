import Derived.Test.Qxb6615643aBase
import Derived.ProofKit
import Derived.OpenShut
import Derived.ShutString
import Derived.ChangeOld
import Derived.Below
import Derived.SliceStrings
import Derived.Deep.Matrix
namespace Go.Proofs.Qxb6615643a
open Go.ChangeShapes Go.WideShapes Go.ChangeAt Go.RowKit Go.Deep
set_option linter.unusedVariables false

theorem addr_plain {w : World} {a : Addr} {v : Value} (h : w.cell? (a.add 0) = some v) : ∃ b o, a = ⟨b, o, none⟩ := by
  obtain ⟨b, off, spot⟩ := a
  have hspot : spot = none := by simpa [Addr.add] using World.cell?_spot h
  subst hspot
  exact ⟨b, off, rfl⟩

theorem strRow_open {w : World} {a : Addr} {len cap : Nat} {ss : List ByteArray} (hl : len ≤ cap) (hz : ss.length = cap) (hc : ∀ i, i < ss.length → w.cell? (a.add i) = some (.string (ss.getD i ByteArray.empty))) : StrRow w (some a) len (ss.take len) := by
  refine ⟨by simp; omega, ?_⟩
  by_cases h0 : len = 0
  · exact .inl h0
  · have h00 := hc 0 (by omega)
    obtain ⟨b, o, rfl⟩ := addr_plain h00
    refine .inr ⟨b, o, rfl, ?_, fun i hi => ?_⟩
    · rw [Addr.add_lit] at h00
      exact World.block_lt_of_cell? _ _ h00
    · have := hc i (by omega)
      rw [Addr.add_lit] at this
      rw [this]
      simp [List.getD, hi]

theorem intRow_open {w : World} {A : Option Addr} {L C : Nat} {Z : List Int} (hl : L ≤ C) (hz : Z.length = C) (hn : A = none → C = 0) (hc : ∀ a', A = some a' → ∀ c, c < C → w.cell? (a'.add c) = some (.int .i64 (Z.getD c 0))) : IntRow w A L (Z.take L) := by
  refine ⟨by simp; omega, ?_⟩
  by_cases h0 : L = 0
  · exact .inl h0
  · cases A with
    | none => have := hn rfl; omega
    | some a' =>
      have h00 := hc a' rfl 0 (by omega)
      obtain ⟨b, o, rfl⟩ := addr_plain h00
      refine .inr ⟨b, o, rfl, ?_, fun i hi => ?_⟩
      · rw [Addr.add_lit] at h00
        exact World.block_lt_of_cell? _ _ h00
      · have := hc _ rfl i (by omega)
        rw [Addr.add_lit] at this
        rw [this]
        simp [List.getD, hi]

/-- the graph that the rows read as -/
def graphOf (len : Nat) (L : Nat → Nat) (Z : Nat → List Int) : List (List Int) := (List.range len).map fun r => (Z r).take (L r)

theorem graphOf_getD (len : Nat) (L : Nat → Nat) (Z : Nat → List Int) (i : Nat) (hi : i < len) : (graphOf len L Z).getD i [] = (Z i).take (L i) := by simp [graphOf, List.getD, hi]

theorem grRow_open {w : World} {a : Addr} {len cap : Nat} {A : Nat → Option Addr} {L C : Nat → Nat} {Z : Nat → List Int} (hl : len ≤ cap)
    (h : ∀ r, r < cap → w.cell? (a.add r) = some (.slice (A r) (L r) (C r)) ∧ L r ≤ C r ∧ C r ≤ maxLen ∧ (Z r).length = C r ∧ (∀ n ∈ Z r, (Lit.int .i64 n).wf = true) ∧ (A r = none → C r = 0) ∧ ∀ a', A r = some a' → 0 ≤ a'.block ∧ ∀ c, c < C r → w.cell? (a'.add c) = some (.int .i64 ((Z r).getD c 0))) :
    GrRow w (some a) len (graphOf len L Z) := by
  have hlen : ∀ i, i < len → ((graphOf len L Z).getD i []).length = L i := fun i hi => by
    obtain ⟨_, h2, _, h4, _⟩ := h i (by omega)
    rw [graphOf_getD len L Z i hi]
    simp
    omega
  refine ⟨by simp [graphOf], A, C, ?_, fun i hi => ?_⟩
  · by_cases h0 : len = 0
    · exact .inl h0
    · have h00 := (h 0 (by omega)).1
      obtain ⟨b, o, rfl⟩ := addr_plain h00
      refine .inr ⟨b, o, rfl, ?_, fun i hi => ?_⟩
      · rw [Addr.add_lit] at h00
        exact World.block_lt_of_cell? _ _ h00
      · have := (h i (by omega)).1
        rw [Addr.add_lit] at this
        rw [this, hlen i hi]
  · obtain ⟨_, h2, _, h4, _, h6, h7⟩ := h i (by omega)
    rw [hlen i hi, graphOf_getD len L Z i hi]
    exact ⟨intRow_open h2 h4 h6 (fun a' ha => (h7 a' ha).2), fun e => by have := h6 e; omega⟩

theorem grRow_nil (w : World) : GrRow w none 0 [] := ⟨rfl, fun _ => none, fun _ => 0, .inl rfl, fun i hi => by omega⟩
theorem strRow_nil (w : World) : StrRow w none 0 [] := ⟨rfl, .inl rfl⟩

/-- what a law's walk asks of the two arguments -/
structure Args (w : World) (a0 : Option Addr) (len0 : Nat) (ss : List ByteArray) (a1 : Option Addr) (len1 : Nat) (G : List (List Int)) : Prop where
  s : StrRow w a0 len0 ss
  g : GrRow w a1 len1 G
  n0 : a0 = none → len0 = 0
  n1 : a1 = none → len1 = 0
  z : ∀ i, (ss.getD i ByteArray.empty).size ≤ maxLen
  m0 : len0 ≤ 9223372036854775807
  m1 : len1 ≤ 9223372036854775807

end Go.Proofs.Qxb6615643a
