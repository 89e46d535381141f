import Derived.Test.Qxb6615643aPlain
namespace Go.Proofs.Qxb6615643a

/-! The plain mathematics of the breadth-first search; no Go in sight. -/

def Adj (es : List (Nat × Nat)) (u v : Nat) : Prop := (u, v) ∈ es ∨ (v, u) ∈ es

theorem Adj.symm {es : List (Nat × Nat)} {u v : Nat} (h : Adj es u v) : Adj es v u := h.elim .inr .inl

/-! ### the rows of neighbours -/

/-- one edge laid into the rows: y behind x's, then x behind y's -/
def lay1 (L : Nat → List Int) (x y : Nat) : Nat → List Int := fun i => if i = x then L x ++ [(y : Int)] else L i
def lay2 (L : Nat → List Int) (x y : Nat) : Nat → List Int := lay1 (lay1 L x y) y x

def adjOf (es : List (Nat × Nat)) : Nat → List Int := es.foldl (fun L e => lay2 L e.1 e.2) (fun _ => [])

theorem adjOf_snoc (es : List (Nat × Nat)) (x y : Nat) : adjOf (es ++ [(x, y)]) = lay2 (adjOf es) x y := by simp [adjOf, List.foldl_append]

theorem mem_lay1 (L : Nat → List Int) (x y i : Nat) (z : Int) : z ∈ lay1 L x y i ↔ z ∈ L i ∨ (i = x ∧ z = (y : Int)) := by
  simp only [lay1]
  split
  · rename_i h
    subst h
    simp
  · rename_i h
    simp [h]

/-- what the rows hold: just the neighbours -/
structure Nbr (es : List (Nat × Nat)) (L : Nat → List Int) : Prop where
  out : ∀ i z, z ∈ L i → ∃ u : Nat, z = (u : Int) ∧ Adj es i u
  into : ∀ i u, Adj es i u → (u : Int) ∈ L i

theorem Nbr.step {es : List (Nat × Nat)} {L : Nat → List Int} (h : Nbr es L) (x y : Nat) : Nbr (es ++ [(x, y)]) (lay2 L x y) := by
  refine ⟨fun i z hz => ?_, fun i u hu => ?_⟩
  · rw [lay2, mem_lay1, mem_lay1] at hz
    rcases hz with (hz | ⟨rfl, rfl⟩) | ⟨rfl, rfl⟩
    · obtain ⟨u, hu, ha⟩ := h.out i z hz
      exact ⟨u, hu, ha.elim (fun h => .inl (List.mem_append_left _ h)) (fun h => .inr (List.mem_append_left _ h))⟩
    · exact ⟨y, rfl, .inl (List.mem_append_right _ (List.mem_singleton.2 rfl))⟩
    · exact ⟨x, rfl, .inr (List.mem_append_right _ (List.mem_singleton.2 rfl))⟩
  · rw [lay2, mem_lay1, mem_lay1]
    rcases hu with hu | hu
    · rcases List.mem_append.1 hu with hu | hu
      · exact .inl (.inl (h.into i u (.inl hu)))
      · simp only [List.mem_singleton, Prod.mk.injEq] at hu
        exact .inl (.inr ⟨hu.1, by rw [hu.2]⟩)
    · rcases List.mem_append.1 hu with hu | hu
      · exact .inl (.inl (h.into i u (.inr hu)))
      · simp only [List.mem_singleton, Prod.mk.injEq] at hu
        exact .inr ⟨hu.2, by rw [hu.1]⟩

theorem adjOf_from (es : List (Nat × Nat)) : ∀ (pre : List (Nat × Nat)) (L : Nat → List Int), Nbr pre L → Nbr (pre ++ es) (es.foldl (fun L e => lay2 L e.1 e.2) L) := by
  induction es with
  | nil => intro pre L h; simpa using h
  | cons e es ih =>
    intro pre L h
    have := ih (pre ++ [e]) _ (h.step e.1 e.2)
    simpa using this

theorem adjOf_nbr (es : List (Nat × Nat)) : Nbr es (adjOf es) := by
  have h0 : Nbr [] (fun _ => []) := ⟨fun i z hz => (List.not_mem_nil hz).elim, fun i u hu => hu.elim (fun h => (List.not_mem_nil h).elim) (fun h => (List.not_mem_nil h).elim)⟩
  exact adjOf_from es [] _ h0

theorem lay1_len (L : Nat → List Int) (x y i : Nat) : (lay1 L x y i).length ≤ (L i).length + 1 := by
  simp only [lay1]
  split
  · rename_i h; subst h; simp
  · omega

theorem adjOf_len_from (es : List (Nat × Nat)) : ∀ (L : Nat → List Int) (b : Nat), (∀ i, (L i).length ≤ b) → ∀ i, ((es.foldl (fun L e => lay2 L e.1 e.2) L) i).length ≤ b + 2 * es.length := by
  induction es with
  | nil => intro L b h i; simpa using h i
  | cons e es ih =>
    intro L b h i
    have := ih (lay2 L e.1 e.2) (b + 2) (fun i => by
      have h1 := lay1_len (lay1 L e.1 e.2) e.2 e.1 i
      have h2 := lay1_len L e.1 e.2 i
      have h3 := h i
      simp only [lay2]
      omega) i
    simp only [List.foldl_cons, List.length_cons]
    omega

theorem adjOf_len (es : List (Nat × Nat)) (i : Nat) : (adjOf es i).length ≤ 2 * es.length := by
  have := adjOf_len_from es (fun _ => []) 0 (fun _ => Nat.le_refl _) i
  simpa [adjOf] using this

/-! ### counting -/

theorem countP_set (p : Int → Bool) : ∀ (hs : List Int) (w : Nat) (v : Int), w < hs.length → (hs.set w v).countP p + (if p (hs.getD w 0) then 1 else 0) = hs.countP p + (if p v then 1 else 0)
  | [], w, v, h => by simp at h
  | a :: hs, 0, v, h => by
    simp only [List.set_cons_zero, List.countP_cons, List.getD_cons_zero]
    omega
  | a :: hs, w + 1, v, h => by
    have ih := countP_set p hs w v (by simpa using h)
    simp only [List.set_cons_succ, List.countP_cons, List.getD_cons_succ]
    omega

theorem countP_lt (p : Int → Bool) : ∀ (hs : List Int) (w : Nat), w < hs.length → p (hs.getD w 0) = false → hs.countP p < hs.length
  | [], w, h, _ => by simp at h
  | a :: hs, 0, h, hp => by
    have := List.countP_le_length (p := p) (l := hs)
    simp only [List.getD_cons_zero] at hp
    simp only [List.countP_cons, hp, List.length_cons]
    simp
    omega
  | a :: hs, w + 1, h, hp => by
    have ih := countP_lt p hs w (by simpa using h) (by simpa using hp)
    simp only [List.countP_cons, List.length_cons]
    split <;> omega

theorem getDI_set (hs : List Int) (x : Nat) (v : Int) (i : Nat) (hx : x < hs.length) : (hs.set x v).getD i 0 = if i = x then v else hs.getD i 0 := by
  simp only [List.getD, List.getElem?_set]
  by_cases h : x = i
  · subst h
    simp [hx]
  · simp [h, show ¬ i = x from fun e => h e.symm]

def vis (h : Int) : Bool := decide (0 ≤ h)
def isH (s : Int) (h : Int) : Bool := decide (h = s)
theorem vis_no {h : Int} (h0 : h < 0) : vis h = false := decide_eq_false (by omega)
theorem vis_yes {h : Int} (h0 : 0 ≤ h) : vis h = true := decide_eq_true h0
theorem isH_no {s h : Int} (h0 : h ≠ s) : isH s h = false := decide_eq_false h0
theorem isH_yes (s : Int) : isH s s = true := decide_eq_true rfl

/-! ### the search: between two starts -/

structure Out (n : Nat) (es : List (Nat × Nat)) (s : Nat) (hs szs : List Int) (t : Nat) : Prop where
  lh : hs.length = n
  lz : szs.length = n
  cnt : hs.countP vis = t
  early : ∀ i, i < s → 0 ≤ hs.getD i 0
  hle : ∀ i, i < n → 0 ≤ hs.getD i 0 → hs.getD i 0 ≤ i ∧ hs.getD i 0 < s
  closed : ∀ i j, i < n → 0 ≤ hs.getD i 0 → Adj es i j → hs.getD j 0 = hs.getD i 0
  sound : ∀ g : Nat → Nat, (∀ e ∈ es, g e.1 = g e.2) → ∀ i, i < n → 0 ≤ hs.getD i 0 → g (hs.getD i 0).toNat = g i
  size : ∀ i, i < n → 0 ≤ hs.getD i 0 → szs.getD (hs.getD i 0).toNat 0 = (hs.countP (isH (hs.getD i 0)) : Nat)

theorem Out.skip {n : Nat} {es : List (Nat × Nat)} {s : Nat} {hs szs : List Int} {t : Nat} (h : Out n es s hs szs t) (hv : 0 ≤ hs.getD s 0) : Out n es (s + 1) hs szs t :=
  ⟨h.lh, h.lz, h.cnt, fun i hi => by by_cases e : i = s
                                     · subst e; exact hv
                                     · exact h.early i (by omega),
    fun i hi h0 => ⟨(h.hle i hi h0).1, by have := (h.hle i hi h0).2; omega⟩, h.closed, h.sound, h.size⟩

/-- .. inside the search from s: 'st': where the queue began; 'q': how many have been taken out -/
structure In (n : Nat) (es : List (Nat × Nat)) (s st : Nat) (hs szs : List Int) (qs : List Int) (q t : Nat) : Prop where
  lh : hs.length = n
  lz : szs.length = n
  lq : qs.length = n
  sn : s < n
  cnt : hs.countP vis = t
  early : ∀ i, i ≤ s → 0 ≤ hs.getD i 0
  hle : ∀ i, i < n → 0 ≤ hs.getD i 0 → hs.getD i 0 ≤ i ∧ hs.getD i 0 ≤ s
  old : ∀ i j, i < n → 0 ≤ hs.getD i 0 → hs.getD i 0 ≠ s → Adj es i j → hs.getD j 0 = hs.getD i 0
  sound : ∀ g : Nat → Nat, (∀ e ∈ es, g e.1 = g e.2) → ∀ i, i < n → 0 ≤ hs.getD i 0 → g (hs.getD i 0).toNat = g i
  size : ∀ i, i < n → 0 ≤ hs.getD i 0 → hs.getD i 0 ≠ s → szs.getD (hs.getD i 0).toNat 0 = (hs.countP (isH (hs.getD i 0)) : Nat)
  own : st + hs.countP (isH s) = t
  mem : ∀ i, i < n → hs.getD i 0 = s → ∃ p, st ≤ p ∧ p < t ∧ qs.getD p 0 = (i : Int)
  que : ∀ p, st ≤ p → p < t → ∃ i : Nat, qs.getD p 0 = (i : Int) ∧ i < n ∧ hs.getD i 0 = s
  sq : st ≤ q ∧ q ≤ t
  done : ∀ p, st ≤ p → p < q → ∀ j, Adj es (qs.getD p 0).toNat j → hs.getD j 0 = s

/-- the search from s begins -/
theorem Out.begin_ {n : Nat} {es : List (Nat × Nat)} {s : Nat} {hs szs qs : List Int} {t : Nat} (h : Out n es s hs szs t) (hsn : s < n) (hv : hs.getD s 0 < 0) (hq : qs.length = n) : In n es s t (hs.set s s) szs (qs.set t s) t (t + 1) ∧ t < n := by
  have hlh := h.lh
  have htn : t < n := by
    have := countP_lt vis hs s (by omega) (vis_no (by omega))
    have := h.cnt
    omega
  have g : ∀ i, (hs.set s (s : Int)).getD i 0 = if i = s then (s : Int) else hs.getD i 0 := fun i => getDI_set hs s s i (by omega)
  have gq : ∀ i, (qs.set t (s : Int)).getD i 0 = if i = t then (s : Int) else qs.getD i 0 := fun i => getDI_set qs t s i (by omega)
  have c1 := countP_set vis hs s (s : Int) (by omega)
  have e1 : vis (hs.getD s 0) = false := vis_no (by omega)
  have e2 : vis (s : Int) = true := vis_yes (by omega)
  have cH : ∀ x : Int, (hs.set s (s : Int)).countP (isH x) + (if isH x (hs.getD s 0) then 1 else 0) = hs.countP (isH x) + (if isH x (s : Int) then 1 else 0) := fun x => countP_set (isH x) hs s (s : Int) (by omega)
  have hno : ∀ i, i < n → hs.getD i 0 ≠ (s : Int) := fun i hi e => by have := (h.hle i hi (by omega)).2; omega
  have c0 : hs.countP (isH (s : Int)) = 0 := by
    rw [List.countP_eq_zero]
    intro a ha
    obtain ⟨i, hi, rfl⟩ := List.getElem_of_mem ha
    have := hno i (by omega)
    rw [List.getD_eq_getElem?_getD, List.getElem?_eq_getElem hi] at this
    simpa [isH] using this
  refine ⟨⟨by simpa using h.lh, h.lz, by simpa using hq, hsn, ?_, fun i hi => ?_, fun i hi h0 => ?_, fun i j hi h0 hne ha => ?_, fun f hf i hi h0 => ?_, fun i hi h0 hne => ?_, ?_, fun i hi he => ?_, fun p h1 h2 => ?_, ⟨Nat.le_refl _, by omega⟩, fun p h1 h2 => by omega⟩, htn⟩
  · have := h.cnt
    rw [e1, e2] at c1
    simp only [if_true, Bool.false_eq_true, if_false] at c1
    omega
  · rw [g]
    split
    · omega
    · exact h.early i (by omega)
  · rw [g] at h0 ⊢
    split at h0
    · rename_i e; rw [if_pos e]; omega
    · rename_i e
      rw [if_neg e]
      have := h.hle i hi h0
      omega
  · rw [g] at h0 hne ⊢
    split at h0
    · rename_i e; rw [if_pos e] at hne; exact absurd rfl hne
    · rename_i e
      have hc := h.closed i j hi h0 ha
      rw [g, if_neg e]
      split
      · rename_i e2; subst e2; omega
      · exact hc
  · rw [g] at h0 ⊢
    split at h0
    · rename_i e; rw [if_pos e]; simp [e]
    · rename_i e; rw [if_neg e]; exact h.sound f hf i hi h0
  · rw [g] at h0 hne ⊢
    split at h0
    · rename_i e; rw [if_pos e] at hne; exact absurd rfl hne
    · rename_i e
      rw [if_neg e] at hne ⊢
      rw [h.size i hi h0]
      have := cH (hs.getD i 0)
      have d1 : isH (hs.getD i 0) (hs.getD s 0) = false := isH_no (by omega)
      have d2 : isH (hs.getD i 0) (s : Int) = false := isH_no (by omega)
      rw [d1, d2] at this
      simp only [Bool.false_eq_true, if_false] at this
      omega
  · have := cH (s : Int)
    have d1 : isH (s : Int) (hs.getD s 0) = false := isH_no (by omega)
    have d2 : isH (s : Int) (s : Int) = true := isH_yes _
    rw [d1, d2, c0] at this
    simp only [if_true, Bool.false_eq_true, if_false] at this
    omega
  · rw [g] at he
    split at he
    · rename_i e; exact ⟨t, Nat.le_refl _, by omega, by rw [gq, if_pos rfl, e]⟩
    · exact absurd he (hno i hi)
  · have : p = t := by omega
    subst this
    exact ⟨s, by rw [gq, if_pos rfl], hsn, by rw [g, if_pos rfl]⟩

/-- a neighbour that had no head yet -/
theorem In.add {n : Nat} {es : List (Nat × Nat)} {s st : Nat} {hs szs qs : List Int} {q t : Nat} (h : In n es s st hs szs qs q t) (v w : Nat) (hw : w < n) (hv : v < n) (hvs : hs.getD v 0 = s) (ha : Adj es v w) (hneg : hs.getD w 0 < 0) : In n es s st (hs.set w s) szs (qs.set t w) q (t + 1) ∧ t < n := by
  have hlh := h.lh
  have hlq := h.lq
  have htn : t < n := by
    have := countP_lt vis hs w (by omega) (vis_no (by omega))
    have := h.cnt
    omega
  have hsn := h.sn
  have g : ∀ i, (hs.set w (s : Int)).getD i 0 = if i = w then (s : Int) else hs.getD i 0 := fun i => getDI_set hs w s i (by omega)
  have gq : ∀ i, (qs.set t (w : Int)).getD i 0 = if i = t then (w : Int) else qs.getD i 0 := fun i => getDI_set qs t w i (by omega)
  have c1 := countP_set vis hs w (s : Int) (by omega)
  have e1 : vis (hs.getD w 0) = false := vis_no (by omega)
  have e2 : vis (s : Int) = true := vis_yes (by omega)
  have cH : ∀ x : Int, (hs.set w (s : Int)).countP (isH x) + (if isH x (hs.getD w 0) then 1 else 0) = hs.countP (isH x) + (if isH x (s : Int) then 1 else 0) := fun x => countP_set (isH x) hs w (s : Int) (by omega)
  have hws : s ≤ w := by
    by_cases e : w ≤ s
    · have := h.early w e; omega
    · omega
  refine ⟨⟨by simpa using h.lh, h.lz, by simpa using h.lq, h.sn, ?_, fun i hi => ?_, fun i hi h0 => ?_, fun i j hi h0 hne hadj => ?_, fun f hf i hi h0 => ?_, fun i hi h0 hne => ?_, ?_, fun i hi he => ?_, fun p h1 h2 => ?_, ⟨h.sq.1, by have := h.sq.2; omega⟩, fun p h1 h2 j hj => ?_⟩, htn⟩
  · have := h.cnt
    rw [e1, e2] at c1
    simp only [if_true, Bool.false_eq_true, if_false] at c1
    omega
  · rw [g]
    split
    · omega
    · exact h.early i hi
  · rw [g] at h0 ⊢
    split at h0
    · rename_i e; rw [if_pos e]; omega
    · rename_i e; rw [if_neg e]; exact h.hle i hi h0
  · rw [g] at h0 hne ⊢
    split at h0
    · rename_i e; rw [if_pos e] at hne; exact absurd rfl hne
    · rename_i e
      rw [if_neg e] at hne
      have hc := h.old i j hi h0 hne hadj
      rw [g, if_neg e]
      split
      · rename_i e2; subst e2; omega
      · exact hc
  · rw [g] at h0 ⊢
    split at h0
    · rename_i e
      rw [if_pos e]
      have h1 := h.sound f hf v hv (by omega)
      rw [hvs] at h1
      have h2 : f v = f w := by
        rcases ha with ha | ha
        · exact hf _ ha
        · exact (hf _ ha).symm
      rw [e, ← h2]
      exact h1
    · rename_i e; rw [if_neg e]; exact h.sound f hf i hi h0
  · rw [g] at h0 hne ⊢
    split at h0
    · rename_i e; rw [if_pos e] at hne; exact absurd rfl hne
    · rename_i e
      rw [if_neg e] at hne ⊢
      rw [h.size i hi h0 hne]
      have := cH (hs.getD i 0)
      have d1 : isH (hs.getD i 0) (hs.getD w 0) = false := isH_no (by omega)
      have d2 : isH (hs.getD i 0) (s : Int) = false := isH_no (by omega)
      rw [d1, d2] at this
      simp only [Bool.false_eq_true, if_false] at this
      omega
  · have := cH (s : Int)
    have d1 : isH (s : Int) (hs.getD w 0) = false := isH_no (by omega)
    have d2 : isH (s : Int) (s : Int) = true := isH_yes _
    rw [d1, d2] at this
    have := h.own
    simp only [if_true, Bool.false_eq_true, if_false] at *
    omega
  · rw [g] at he
    split at he
    · rename_i e; exact ⟨t, by have := h.sq; omega, by omega, by rw [gq, if_pos rfl, e]⟩
    · obtain ⟨p, h1, h2, h3⟩ := h.mem i hi he
      exact ⟨p, h1, by omega, by rw [gq, if_neg (by omega)]; exact h3⟩
  · by_cases e : p = t
    · subst e
      exact ⟨w, by rw [gq, if_pos rfl], hw, by rw [g, if_pos rfl]⟩
    · obtain ⟨i, h3, h4, h5⟩ := h.que p h1 (by omega)
      refine ⟨i, by rw [gq, if_neg e]; exact h3, h4, ?_⟩
      rw [g]
      split
      · rfl
      · exact h5
  · have hqt := h.sq.2
    rw [gq, if_neg (by omega)] at hj
    have := h.done p h1 h2 j hj
    rw [g]
    split
    · rfl
    · exact this

/-- one taken out of the queue, all its neighbours looked at -/
theorem In.took {n : Nat} {es : List (Nat × Nat)} {s st : Nat} {hs szs qs : List Int} {q t : Nat} (h : In n es s st hs szs qs q t) (hq : q < t) (hall : ∀ j, Adj es (qs.getD q 0).toNat j → hs.getD j 0 = s) : In n es s st hs szs qs (q + 1) t :=
  ⟨h.lh, h.lz, h.lq, h.sn, h.cnt, h.early, h.hle, h.old, h.sound, h.size, h.own, h.mem, h.que, ⟨by have := h.sq.1; omega, by omega⟩, fun p h1 h2 j hj => by
    by_cases e : p = q
    · subst e; exact hall j hj
    · exact h.done p h1 (by omega) j hj⟩

/-- a neighbour that has a head already has this one -/
theorem In.same {n : Nat} {es : List (Nat × Nat)} {s st : Nat} {hs szs qs : List Int} {q t : Nat} (h : In n es s st hs szs qs q t) (v w : Nat) (hw : w < n) (hvs : hs.getD v 0 = s) (ha : Adj es v w) (h0 : 0 ≤ hs.getD w 0) : hs.getD w 0 = s := by
  by_cases e : hs.getD w 0 = s
  · exact e
  · have := h.old w v hw h0 e ha.symm
    omega

/-- the search from s ends -/
theorem In.end_ {n : Nat} {es : List (Nat × Nat)} {s st : Nat} {hs szs qs : List Int} {t : Nat} (h : In n es s st hs szs qs t t) : Out n es (s + 1) hs (szs.set s ((t : Int) - (st : Int))) t := by
  have hlz := h.lz
  have hsn := h.sn
  have gz : ∀ i, (szs.set s ((t : Int) - (st : Int))).getD i 0 = if i = s then (t : Int) - (st : Int) else szs.getD i 0 := fun i => getDI_set szs s _ i (by omega)
  refine ⟨h.lh, by simpa using h.lz, h.cnt, fun i hi => h.early i (by omega), fun i hi h0 => ⟨(h.hle i hi h0).1, by have := (h.hle i hi h0).2; omega⟩, fun i j hi h0 ha => ?_, h.sound, fun i hi h0 => ?_⟩
  · by_cases e : hs.getD i 0 = s
    · obtain ⟨p, h1, h2, h3⟩ := h.mem i hi e
      have := h.done p h1 h2 j (by rw [h3]; simpa using ha)
      rw [e]
      exact this
    · exact h.old i j hi h0 e ha
  · rw [gz]
    by_cases e : hs.getD i 0 = s
    · rw [e]
      simp only [Int.toNat_natCast, if_true]
      have := h.own
      omega
    · rw [if_neg (by omega)]
      exact h.size i hi h0 e

/-- the heads are the least roots -/
theorem Out.heads {n : Nat} {es : List (Nat × Nat)} {hs szs : List Int} {t : Nat} (h : Out n es n hs szs t) (hes : ∀ e ∈ es, e.1 < n ∧ e.2 < n) (i : Nat) (hi : i < n) : hs.getD i 0 = ((roots es i : Nat) : Int) := by
  have g := roots_good es
  have hv : ∀ j, j < n → 0 ≤ hs.getD j 0 := h.early
  have h1 := h.sound (roots es) g.edge i hi (hv i hi)
  have h2 := g.le (hs.getD i 0).toNat
  let f : Nat → Nat := fun j => (hs.getD j 0).toNat
  have hf : ∀ e ∈ es, f e.1 = f e.2 := fun e he => by
    have := h.closed e.1 e.2 (hes e he).1 (hv e.1 (hes e he).1) (.inl he)
    show (hs.getD e.1 0).toNat = (hs.getD e.2 0).toNat
    rw [this]
  have h3 : (hs.getD (roots es i) 0).toNat = (hs.getD i 0).toNat := g.sound f hf i
  have h4 := g.le i
  have h5 := (h.hle (roots es i) (by omega) (hv _ (by omega))).1
  have h6 := hv i hi
  omega

/-- .. and a head's size is how many have it -/
theorem Out.sizes {n : Nat} {es : List (Nat × Nat)} {hs szs : List Int} {t : Nat} (h : Out n es n hs szs t) (i : Nat) (hi : i < n) : szs.getD (hs.getD i 0).toNat 0 = (hs.countP (isH (hs.getD i 0)) : Nat) := h.size i hi (h.early i hi)

end Go.Proofs.Qxb6615643a
