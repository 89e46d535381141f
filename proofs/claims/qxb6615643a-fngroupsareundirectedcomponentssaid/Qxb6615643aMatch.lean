import Derived.Test.Qxb6615643aMap
import Derived.Test.Qxb6615643aBfs
namespace Go.Proofs.Qxb6615643a
open Go.RowKit Go.Maps
set_option linter.unusedVariables false

/-- how many ids have a key in D -/
def cntK (ss : List ByteArray) (n : Nat) (D : DataW Unit) : Nat := ((List.range n).filter fun i => Maps.has D (key (ss.getD i ByteArray.empty))).length

theorem mapD_tidy (ss : List ByteArray) (r : Nat → Nat) (k : Nat) : Tidy (mapD ss r k) := by
  induction k with
  | zero => exact tidy_empty
  | succ k ih =>
    simp only [mapD]
    split
    · exact ih
    · exact (ih.put (keyLit _) _).put (keyLit _) _

theorem filter_or_one (n i0 : Nat) (hi0 : i0 < n) (p p' : Nat → Bool) (h0 : p i0 = false) (h1 : p' i0 = true) (h2 : ∀ i, i ≠ i0 → p' i = p i) : ((List.range n).filter p').length = ((List.range n).filter p).length + 1 := by
  induction n with
  | zero => omega
  | succ n ih =>
    rw [List.range_succ, List.filter_append, List.filter_append, List.length_append, List.length_append]
    by_cases hn : i0 = n
    · subst hn
      have e : (List.range i0).filter p' = (List.range i0).filter p := List.filter_congr (fun i hi => h2 i (by have := List.mem_range.1 hi; omega))
      rw [e]
      simp [h0, h1]
    · have := ih (by omega)
      rw [this]
      have e : ([n].filter p') = ([n].filter p) := by simp [List.filter, h2 n (fun e => hn e.symm)]
      rw [e]
      omega

theorem cntK_put (ss : List ByteArray) (n : Nat) (hd : ∀ i j, i < n → j < n → ss.getD i ByteArray.empty = ss.getD j ByteArray.empty → i = j) (D : DataW Unit) (hT : Tidy D) (hc : Maps.size D = cntK ss n D) (i0 : Nat) (hi0 : i0 < n) (v : DataW Unit) :
    Maps.size (D.put (key (ss.getD i0 ByteArray.empty)) v) = cntK ss n (D.put (key (ss.getD i0 ByteArray.empty)) v) := by
  rw [size_put hT, hc]
  have hsame := has_put_same hT.isMap (keyLit (ss.getD i0 ByteArray.empty)) v
  by_cases hh : Maps.has D (key (ss.getD i0 ByteArray.empty)) = true
  · rw [if_pos hh]
    unfold cntK
    congr 1
    refine List.filter_congr (fun i hi => ?_)
    by_cases he : key (ss.getD i ByteArray.empty) = key (ss.getD i0 ByteArray.empty)
    · rw [he, hsame, hh]
    · rw [has_put_other he]
  · rw [if_neg hh]
    unfold cntK
    rw [← filter_or_one n i0 hi0 (fun i => Maps.has D (key (ss.getD i ByteArray.empty))) (fun i => if i < n then Maps.has (D.put (key (ss.getD i0 ByteArray.empty)) v) (key (ss.getD i ByteArray.empty)) else Maps.has D (key (ss.getD i ByteArray.empty))) (by simpa using hh) (by simp only [hi0, if_true]; exact hsame) (fun i hi => ?_)]
    · congr 1
      refine List.filter_congr (fun i hi => ?_)
      rw [if_pos (List.mem_range.1 hi)]
    · show (if i < n then _ else _) = _
      split
      · rename_i hin
        exact has_put_other (fun e => hi (hd i i0 hin hi0 (key_inj e))) _
      · rfl

theorem mapD_size (ss : List ByteArray) (r : Nat → Nat) (n : Nat) (hd : ∀ i j, i < n → j < n → ss.getD i ByteArray.empty = ss.getD j ByteArray.empty → i = j) (hle : ∀ i, r i ≤ i) (k : Nat) (hk : k ≤ n) : Maps.size (mapD ss r k) = cntK ss n (mapD ss r k) := by
  induction k with
  | zero =>
    have e : ∀ i, Maps.has (mapD ss r 0) (key (ss.getD i ByteArray.empty)) = false := fun i => rfl
    have e2 : (List.range n).filter (fun i => Maps.has (mapD ss r 0) (key (ss.getD i ByteArray.empty))) = [] := List.filter_eq_nil_iff.2 (fun i _ => by rw [e i]; exact Bool.false_ne_true)
    rw [cntK, e2]
    rfl
  | succ k ih =>
    have h := ih (by omega)
    have hT := mapD_tidy ss r k
    have hrk := hle k
    by_cases hr : r k = k
    · have e : mapD ss r (k + 1) = mapD ss r k := by simp only [mapD]; rw [if_pos hr]
      rw [e]
      exact h
    · have e : mapD ss r (k + 1) = ((mapD ss r k).put (key (ss.getD k ByteArray.empty)) (val (ss.getD (r k) ByteArray.empty))).put (key (ss.getD (r k) ByteArray.empty)) (val (ss.getD (r k) ByteArray.empty)) := by
        simp only [mapD]; rw [if_neg hr]
      rw [e]
      exact cntK_put ss n hd _ (hT.put (keyLit _) _) (cntK_put ss n hd _ hT h k (by omega) _) (r k) (by omega) _

/-- two places of a list that hold s: more than one is counted -/
theorem countP_two (p : Int → Bool) : ∀ (hs : List Int) (i j : Nat), i < j → j < hs.length → p (hs.getD i 0) = true → p (hs.getD j 0) = true → 2 ≤ hs.countP p
  | [], i, j, _, h, _, _ => by simp at h
  | a :: hs, 0, j + 1, _, h, h1, h2 => by
    simp only [List.getD_cons_zero] at h1
    simp only [List.getD_cons_succ] at h2
    have hj : j < hs.length := by simpa using h
    have : 0 < hs.countP p := by
      rw [List.countP_pos_iff]
      refine ⟨hs[j], List.getElem_mem hj, ?_⟩
      rw [List.getD_eq_getElem?_getD, List.getElem?_eq_getElem hj] at h2
      exact h2
    simp only [List.countP_cons, h1, if_true]
    omega
  | a :: hs, i + 1, j + 1, hij, h, h1, h2 => by
    have ih := countP_two p hs i j (by omega) (by simpa using h) (by simpa using h1) (by simpa using h2)
    simp only [List.countP_cons]
    omega

theorem countP_one (p : Int → Bool) (i : Nat) : ∀ (hs : List Int), (∀ j, j < hs.length → p (hs.getD j 0) = true → j = i) → hs.countP p ≤ 1 := by
  intro hs
  induction hs generalizing i with
  | nil => intro _; simp
  | cons a hs ih =>
    intro h
    simp only [List.countP_cons]
    by_cases ha : p a = true
    · have h0 := h 0 (by simp) (by simpa using ha)
      have : hs.countP p = 0 := by
        rw [List.countP_eq_zero]
        intro b hb
        obtain ⟨j, hj, rfl⟩ := List.getElem_of_mem hb
        intro hp
        have := h (j + 1) (by simpa using hj) (by simp [List.getD, hj]; exact hp)
        omega
      rw [if_pos ha]
      omega
    · rw [if_neg ha]
      have := ih (i - 1) (fun j hj hp => by
        have := h (j + 1) (by simpa using hj) (by simpa using hp)
        omega)
      omega

/-- a head's size tells whether the id is in the map -/
theorem size_has (ss : List ByteArray) (r : Nat → Nat) (n : Nat) (hd : ∀ i j, i < n → j < n → ss.getD i ByteArray.empty = ss.getD j ByteArray.empty → i = j) (hle : ∀ i, r i ≤ i) (hidem : ∀ i, r (r i) = r i) (hs : List Int) (hl : hs.length = n) (hh : ∀ i, i < n → hs.getD i 0 = ((r i : Nat) : Int)) (i : Nat) (hi : i < n) :
    Maps.has (mapD ss r n) (key (ss.getD i ByteArray.empty)) = decide (1 < hs.countP (isH (hs.getD i 0))) := by
  have sp := (mapD_spec ss r n hd hle hidem n (Nat.le_refl _) i hi).1
  have hp : ∀ j, j < n → r j = r i → isH (hs.getD i 0) (hs.getD j 0) = true := fun j hj e => by rw [hh i hi, hh j hj, e]; exact isH_yes _
  by_cases h : ∃ x, x < n ∧ r x ≠ x ∧ (x = i ∨ r x = i)
  · rw [sp.2 h]
    obtain ⟨x, hx, h1, h2⟩ := h
    have hrx := hle x
    have two : ∃ a b, a < b ∧ b < n ∧ r a = r i ∧ r b = r i := by
      rcases h2 with rfl | h2
      · exact ⟨r x, x, by omega, hx, hidem x, rfl⟩
      · have e := hidem x
        rw [h2] at e
        exact ⟨i, x, by omega, hx, rfl, by rw [h2, e]⟩
    obtain ⟨a, b, hab, hb, ha1, hb1⟩ := two
    have := countP_two (isH (hs.getD i 0)) hs a b hab (by omega) (hp a (by omega) ha1) (hp b hb hb1)
    exact (decide_eq_true (by omega)).symm
  · have hf : Maps.has (mapD ss r n) (key (ss.getD i ByteArray.empty)) = false := by
      cases hc : Maps.has (mapD ss r n) (key (ss.getD i ByteArray.empty)) with
      | false => rfl
      | true => exact absurd (sp.1 hc) h
    rw [hf]
    have := countP_one (isH (hs.getD i 0)) i hs (fun j hj hpj => by
      have e1 : hs.getD j 0 = hs.getD i 0 := of_decide_eq_true hpj
      rw [hh j (by omega), hh i hi] at e1
      have e2 : r j = r i := by omega
      by_cases hji : j = i
      · exact hji
      · exfalso
        by_cases hri : r i = i
        · exact h ⟨j, by omega, by omega, .inr (by omega)⟩
        · exact h ⟨i, hi, hri, .inl rfl⟩)
    exact (decide_eq_false (by omega)).symm

end Go.Proofs.Qxb6615643a
