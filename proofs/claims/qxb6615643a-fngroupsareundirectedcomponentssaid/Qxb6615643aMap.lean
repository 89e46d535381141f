import Derived.Test.Qxb6615643aFind
import Derived.Maps.Own
import Derived.Maps.OwnOps
import Derived.Maps.OwnSet
import Derived.Maps.StringElems
namespace Go.Proofs.Qxb6615643a
open Go.RowKit Go.Maps
open Go.WideMaps (keyOf_string_mk)
set_option linter.unusedVariables false

def key (s : ByteArray) : Lit := .string s.data.toList
def val (s : ByteArray) : DataW Unit := .lit (.string s.data.toList)

theorem law9 : Keyed Try.prog 9 := string_keyed Try.underlying9
theorem zero9 (w : World) : (zeroValue 9).run Try.prog w = .ok (.string ⟨#[]⟩) w := by kernel_rfl

theorem val_inj {s t : ByteArray} (h : val s = val t) : s = t := by
  simp only [val, DataW.lit.injEq, Lit.string.injEq] at h
  exact Go.WideShapes.bytes_inj h

theorem key_inj {s t : ByteArray} (h : key s = key t) : s = t := by
  simp only [key, Lit.string.injEq] at h
  exact Go.WideShapes.bytes_inj h

/-- block b is a map of at most N entries that reads as D -/
def OM (b N : Nat) (D : DataW Unit) (w : World) : Prop := w.ownsMap Try.prog 9 (plainElem Try.prog 9) b N D

theorem OM.look {b N : Nat} {D : DataW Unit} {w : World} (h : OM b N D w) (s : ByteArray) (hs : s.size ≤ maxLen) :
    ∃ t, (Instr.lookup 27 (.map (some b)) (.string s) true).run Try.prog w = .ok (.tuple #[.string t, .bool (Maps.has D (key s))]) w ∧ D.atKey (key s) (val ⟨#[]⟩) = val t := by
  obtain ⟨v, ps, hrun, hv⟩ := World.ownsMap.look_ok h law9 Try.underlying27 (zero9 w) (plainElem_string (H := Unit) Try.underlying9 (s := ⟨#[]⟩) (by decide)) (keyOf_string_mk Try.underlying9 hs)
  obtain ⟨t, rfl, ht, _⟩ := plainElem_string_inv Try.underlying9 hv
  refine ⟨t, hrun, ?_⟩
  simp only [Prod.mk.injEq] at ht
  exact ht.1

theorem OM.put {b N : Nat} {D : DataW Unit} {w : World} (h : OM b N D w) (s t : ByteArray) (hs : s.size ≤ maxLen) (ht : t.size ≤ maxLen) (hN : N < maxLen) :
    ∃ w', (Instr.mapUpdate 27 (.map (some b)) (.string s) (.string t)).run Try.prog w = .ok () w' ∧ OM b (N + 1) (D.put (key s) (val t)) w' ∧ w.grownBy w' (some b) :=
  World.ownsMap.update h law9 Try.underlying27 hN (keyOf_string_mk Try.underlying9 hs) (plainElem_string Try.underlying9 ht)

theorem keyLit (s : ByteArray) : WideAt.IsKeyLit (key s) := by
  simp [WideAt.IsKeyLit, key]

/-- what Groups' last loop lays down behind k rounds -/
def mapD (ss : List ByteArray) (r : Nat → Nat) : Nat → DataW Unit
  | 0 => .map []
  | k + 1 => if r k = k then mapD ss r k else ((mapD ss r k).put (key (ss.getD k ByteArray.empty)) (val (ss.getD (r k) ByteArray.empty))).put (key (ss.getD (r k) ByteArray.empty)) (val (ss.getD (r k) ByteArray.empty))

theorem mapD_isMap (ss : List ByteArray) (r : Nat → Nat) (k : Nat) : IsMap (mapD ss r k) := by
  induction k with
  | zero => exact isMap_empty
  | succ k ih =>
    simp only [mapD]
    split
    · exact ih
    · exact (ih.put _ _).put _ _

theorem mapD_congr (ss : List ByteArray) (r r' : Nat → Nat) (k : Nat) (h : ∀ i, r i = r' i) : mapD ss r k = mapD ss r' k := by
  rw [show r = r' from funext h]

/-- which keys are there, and what they hold -/
theorem mapD_spec (ss : List ByteArray) (r : Nat → Nat) (n : Nat) (hd : ∀ i j, i < n → j < n → ss.getD i ByteArray.empty = ss.getD j ByteArray.empty → i = j) (hle : ∀ i, r i ≤ i) (hidem : ∀ i, r (r i) = r i) (k : Nat) (hk : k ≤ n) :
    ∀ i, i < n → (Maps.has (mapD ss r k) (key (ss.getD i ByteArray.empty)) = true ↔ ∃ x, x < k ∧ r x ≠ x ∧ (x = i ∨ r x = i)) ∧
      (Maps.has (mapD ss r k) (key (ss.getD i ByteArray.empty)) = true → ∀ z, (mapD ss r k).atKey (key (ss.getD i ByteArray.empty)) z = val (ss.getD (r i) ByteArray.empty)) := by
  induction k with
  | zero =>
    intro i hi
    have e : Maps.has (mapD ss r 0) (key (ss.getD i ByteArray.empty)) = false := rfl
    rw [e]
    exact ⟨⟨fun h => Bool.noConfusion h, fun ⟨x, hx, _⟩ => absurd hx (Nat.not_lt_zero x)⟩, fun h => Bool.noConfusion h⟩
  | succ k ih =>
    intro i hi
    obtain ⟨ih1, ih2⟩ := ih (by omega) i hi
    have hM := mapD_isMap ss r k
    by_cases hr : r k = k
    · have e : mapD ss r (k + 1) = mapD ss r k := by simp only [mapD]; rw [if_pos hr]
      rw [e]
      refine ⟨ih1.trans ⟨fun ⟨x, hx, h1, h2⟩ => ⟨x, by omega, h1, h2⟩, fun ⟨x, hx, h1, h2⟩ => ⟨x, ?_, h1, h2⟩⟩, ih2⟩
      by_cases hxk : x = k
      · subst hxk; exact absurd hr h1
      · omega
    · have e : mapD ss r (k + 1) = ((mapD ss r k).put (key (ss.getD k ByteArray.empty)) (val (ss.getD (r k) ByteArray.empty))).put (key (ss.getD (r k) ByteArray.empty)) (val (ss.getD (r k) ByteArray.empty)) := by
        simp only [mapD]; rw [if_neg hr]
      rw [e]
      have hrk : r k < n := by have := hle k; omega
      by_cases h1 : i = r k
      · subst h1
        refine ⟨⟨fun _ => ⟨k, by omega, hr, .inr rfl⟩, fun _ => has_put_same (hM.put _ _) (keyLit _) _⟩, fun _ z => ?_⟩
        rw [atKey_put_same (hM.put _ _) (keyLit _), hidem]
      · have hne1 : key (ss.getD i ByteArray.empty) ≠ key (ss.getD (r k) ByteArray.empty) := fun h => h1 (hd i (r k) hi hrk (key_inj h))
        rw [has_put_other hne1]
        by_cases h2 : i = k
        · subst h2
          refine ⟨⟨fun _ => ⟨i, by omega, hr, .inl rfl⟩, fun _ => has_put_same hM (keyLit _) _⟩, fun _ z => ?_⟩
          rw [atKey_put_other hne1, atKey_put_same hM (keyLit _)]
        · have hne2 : key (ss.getD i ByteArray.empty) ≠ key (ss.getD k ByteArray.empty) := fun h => h2 (hd i k hi (by omega) (key_inj h))
          rw [has_put_other hne2]
          refine ⟨ih1.trans ⟨fun ⟨x, hx, h3, h4⟩ => ⟨x, by omega, h3, h4⟩, fun ⟨x, hx, h3, h4⟩ => ⟨x, ?_, h3, h4⟩⟩, fun h z => ?_⟩
          · by_cases hxk : x = k
            · subst hxk
              rcases h4 with h4 | h4
              · exact absurd h4.symm h2
              · exact absurd h4.symm h1
            · omega
          · rw [atKey_put_other hne1, atKey_put_other hne2]
            exact ih2 h z

end Go.Proofs.Qxb6615643a
