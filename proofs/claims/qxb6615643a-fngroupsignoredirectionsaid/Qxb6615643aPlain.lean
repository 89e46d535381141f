namespace Go.Proofs.Qxb6615643a

/-! The plain mathematics of union-find with least roots; no Go in sight. -/

/-- the row fs (each entry points to an earlier one of its group, or to itself) stands for the root function r -/
structure Rep (n : Nat) (fs : List Nat) (r : Nat → Nat) : Prop where
  len : fs.length = n
  le : ∀ i, i < n → fs.getD i 0 ≤ i
  rt : ∀ i, i < n → r (fs.getD i 0) = r i
  fix : ∀ i, i < n → fs.getD i 0 = i → r i = i

theorem getD_set (fs : List Nat) (x v i : Nat) (hx : x < fs.length) : (fs.set x v).getD i 0 = if i = x then v else fs.getD i 0 := by
  simp only [List.getD, List.getElem?_set]
  by_cases h : x = i
  · subst h
    simp [hx]
  · simp [h, show ¬ i = x from fun e => h e.symm]

theorem Rep.lt {n : Nat} {fs : List Nat} {r : Nat → Nat} (h : Rep n fs r) {i : Nat} (hi : i < n) : fs.getD i 0 < n := Nat.lt_of_le_of_lt (h.le i hi) hi

theorem Rep.root_le {n : Nat} {fs : List Nat} {r : Nat → Nat} (h : Rep n fs r) : ∀ i, i < n → r i ≤ i := by
  intro i
  induction i using Nat.strongRecOn with
  | _ i ih =>
    intro hi
    by_cases e : fs.getD i 0 = i
    · rw [h.fix i hi e]; exact Nat.le_refl _
    · have hl := h.le i hi
      have := ih (fs.getD i 0) (by omega) (by omega)
      rw [h.rt i hi] at this
      omega

theorem Rep.not_fix {n : Nat} {fs : List Nat} {r : Nat → Nat} (h : Rep n fs r) (i : Nat) (hi : i < n) (e : fs.getD i 0 ≠ i) : r i ≠ i := by
  have hl := h.le i hi
  have := h.root_le (fs.getD i 0) (by omega)
  rw [h.rt i hi] at this
  omega

theorem Rep.root_root {n : Nat} {fs : List Nat} {r : Nat → Nat} (h : Rep n fs r) : ∀ i, i < n → r (r i) = r i := by
  intro i
  induction i using Nat.strongRecOn with
  | _ i ih =>
    intro hi
    by_cases e : fs.getD i 0 = i
    · rw [h.fix i hi e, h.fix i hi e]
    · have hl := h.le i hi
      have := ih (fs.getD i 0) (by omega) (by omega)
      rw [h.rt i hi] at this
      exact this

/-- path halving keeps what the row stands for -/
theorem Rep.halve {n : Nat} {fs : List Nat} {r : Nat → Nat} (h : Rep n fs r) (x : Nat) (hx : x < n) (e : fs.getD x 0 ≠ x) : Rep n (fs.set x (fs.getD (fs.getD x 0) 0)) r := by
  have hl := h.le x hx
  have hl2 := h.le (fs.getD x 0) (by omega)
  have hlen := h.len
  refine ⟨by simpa using hlen, fun i hi => ?_, fun i hi => ?_, fun i hi hf => ?_⟩
  · rw [getD_set _ _ _ _ (by omega)]
    split
    · omega
    · exact h.le i hi
  · rw [getD_set _ _ _ _ (by omega)]
    split
    · rename_i hix
      rw [h.rt _ (by omega), h.rt x hx, hix]
    · exact h.rt i hi
  · rw [getD_set _ _ _ _ (by omega)] at hf
    split at hf
    · rename_i hix
      exact absurd hf (by omega)
    · exact h.fix i hi hf

/-- two groups made one: the greater root points to the lesser -/
def merge (r : Nat → Nat) (x y : Nat) : Nat → Nat := fun i => if r i = max (r x) (r y) then min (r x) (r y) else r i

theorem Rep.union {n : Nat} {fs : List Nat} {r : Nat → Nat} (h : Rep n fs r) (x y : Nat) (hx : x < n) (hy : y < n) : Rep n (fs.set (max (r x) (r y)) (min (r x) (r y))) (merge r x y) := by
  have hrx := h.root_le x hx
  have hry := h.root_le y hy
  have hxx := h.root_root x hx
  have hyy := h.root_root y hy
  have hm : max (r x) (r y) < n := by omega
  have hlen := h.len
  have hmin : r (min (r x) (r y)) = min (r x) (r y) := by
    rcases Nat.le_total (r x) (r y) with hc | hc
    · rw [Nat.min_eq_left hc]; exact hxx
    · rw [Nat.min_eq_right hc]; exact hyy
  have hmax : r (max (r x) (r y)) = max (r x) (r y) := by
    rcases Nat.le_total (r x) (r y) with hc | hc
    · rw [Nat.max_eq_right hc]; exact hyy
    · rw [Nat.max_eq_left hc]; exact hxx
  refine ⟨by simpa using hlen, fun i hi => ?_, fun i hi => ?_, fun i hi hf => ?_⟩
  · rw [getD_set _ _ _ _ (by omega)]
    split
    · omega
    · exact h.le i hi
  · rw [getD_set _ _ _ _ (by omega)]
    split
    · rename_i hix
      subst hix
      simp only [merge, hmin, hmax, if_true]
      split <;> rfl
    · simp only [merge, h.rt i hi]
  · rw [getD_set _ _ _ _ (by omega)] at hf
    split at hf
    · rename_i hix
      subst hix
      simp only [merge, hmax, if_true]
      exact hf
    · rename_i hix
      have := h.fix i hi hf
      simp only [merge, this, if_neg hix]

/-- the roots behind a list of edges -/
def roots (es : List (Nat × Nat)) : Nat → Nat := es.foldl (fun r e => merge r e.1 e.2) (fun i => i)

theorem roots_snoc (es : List (Nat × Nat)) (x y : Nat) : roots (es ++ [(x, y)]) = merge (roots es) x y := by
  simp [roots, List.foldl_append]

/-- what holds of the roots of every list of edges -/
structure Good (es : List (Nat × Nat)) (r : Nat → Nat) : Prop where
  le : ∀ i, r i ≤ i
  idem : ∀ i, r (r i) = r i
  edge : ∀ e ∈ es, r e.1 = r e.2
  sound : ∀ (g : Nat → Nat), (∀ e ∈ es, g e.1 = g e.2) → ∀ i, g (r i) = g i

theorem Good.step {es : List (Nat × Nat)} {r : Nat → Nat} (h : Good es r) (x y : Nat) : Good (es ++ [(x, y)]) (merge r x y) := by
  have hmin : r (min (r x) (r y)) = min (r x) (r y) := by
    rcases Nat.le_total (r x) (r y) with hc | hc
    · rw [Nat.min_eq_left hc]; exact h.idem x
    · rw [Nat.min_eq_right hc]; exact h.idem y
  refine ⟨fun i => ?_, fun i => ?_, fun e he => ?_, fun g hg i => ?_⟩
  · have := h.le i
    simp only [merge]
    split <;> omega
  · simp only [merge]
    split
    · rw [hmin]
      split <;> rfl
    · rename_i hne
      rw [h.idem i, if_neg hne]
  · rcases List.mem_append.1 he with he | he
    · simp only [merge, h.edge e he]
    · simp only [List.mem_singleton] at he
      subst he
      simp only [merge]
      split <;> split <;> omega
  · have hgx : g (r x) = g x := h.sound g (fun e he => hg e (List.mem_append_left _ he)) x
    have hgy : g (r y) = g y := h.sound g (fun e he => hg e (List.mem_append_left _ he)) y
    have hgi : g (r i) = g i := h.sound g (fun e he => hg e (List.mem_append_left _ he)) i
    have hxy : g x = g y := hg (x, y) (List.mem_append_right _ (List.mem_singleton.2 rfl))
    simp only [merge]
    split
    · rename_i hm
      rw [← hgi, hm]
      rcases Nat.le_total (r x) (r y) with hc | hc
      · rw [Nat.min_eq_left hc, Nat.max_eq_right hc, hgx, hgy, hxy]
      · rw [Nat.min_eq_right hc, Nat.max_eq_left hc, hgx, hgy, hxy]
    · exact hgi

theorem roots_good_from (es : List (Nat × Nat)) : ∀ (pre : List (Nat × Nat)) (r : Nat → Nat), Good pre r → Good (pre ++ es) (es.foldl (fun r e => merge r e.1 e.2) r) := by
  induction es with
  | nil => intro pre r h; simpa using h
  | cons e es ih =>
    intro pre r h
    have := ih (pre ++ [e]) _ (h.step e.1 e.2)
    simpa using this

theorem roots_good (es : List (Nat × Nat)) : Good es (roots es) := by
  have h0 : Good [] (fun i : Nat => i) := ⟨fun _ => Nat.le_refl _, fun _ => rfl, fun e he => (List.not_mem_nil he).elim, fun _ _ _ => rfl⟩
  exact roots_good_from es [] _ h0

/-- the least root is determined by the edges, taken without their direction -/
theorem good_unique {es es' : List (Nat × Nat)} {r r' : Nat → Nat} (h : Good es r) (h' : Good es' r') (h1 : ∀ e ∈ es, r' e.1 = r' e.2) (h2 : ∀ e ∈ es', r e.1 = r e.2) (i : Nat) : r i = r' i := by
  have a := h.sound r' h1 i
  have b := h'.sound r h2 i
  have c := h'.le (r i)
  have d := h.le (r' i)
  omega

theorem roots_swap {es es' : List (Nat × Nat)} (h1 : ∀ x y, (x, y) ∈ es → (y, x) ∈ es') (h2 : ∀ x y, (x, y) ∈ es' → (y, x) ∈ es) (i : Nat) : roots es i = roots es' i := by
  have g := roots_good es
  have g' := roots_good es'
  exact good_unique g g' (fun e he => (g'.edge (e.2, e.1) (h1 e.1 e.2 he)).symm) (fun e he => (g.edge (e.2, e.1) (h2 e.1 e.2 he)).symm) i

/-! ### the edges of a graph, in the order in which they are met -/

def rowEdges (x : Nat) (g : List Int) : List (Nat × Nat) := g.map fun y => (x, y.toNat)

/-- the edges of the first k rows -/
def edgesTo (G : List (List Int)) (k : Nat) : List (Nat × Nat) := (List.range k).flatMap fun x => rowEdges x (G.getD x [])

def edges (G : List (List Int)) : List (Nat × Nat) := edgesTo G G.length

/-- .. and of the first j entries of row k -/
def edgesAt (G : List (List Int)) (k j : Nat) : List (Nat × Nat) := edgesTo G k ++ rowEdges k ((G.getD k []).take j)

theorem edgesAt_zero (G : List (List Int)) (k : Nat) : edgesAt G k 0 = edgesTo G k := by simp [edgesAt, rowEdges]

theorem edgesAt_all (G : List (List Int)) (k j : Nat) (h : (G.getD k []).length ≤ j) : edgesAt G k j = edgesTo G (k + 1) := by
  rw [edgesAt, List.take_of_length_le h, edgesTo, edgesTo, List.range_succ, List.flatMap_append]
  simp

theorem edgesAt_succ (G : List (List Int)) (k j : Nat) (h : j < (G.getD k []).length) : edgesAt G k (j + 1) = edgesAt G k j ++ [(k, ((G.getD k []).getD j 0).toNat)] := by
  have e : (G.getD k []).getD j 0 = (G.getD k [])[j] := by rw [List.getD_eq_getElem?_getD, List.getElem?_eq_getElem h]; rfl
  rw [edgesAt, edgesAt, List.take_succ_eq_append_getElem h, e, List.append_assoc]
  congr 1
  simp only [rowEdges, List.map_append, List.map_cons, List.map_nil]

theorem mem_edgesTo {G : List (List Int)} {k : Nat} {e : Nat × Nat} : e ∈ edgesTo G k ↔ e.1 < k ∧ ∃ z ∈ G.getD e.1 [], z.toNat = e.2 := by
  simp only [edgesTo, List.mem_flatMap, List.mem_range, rowEdges, List.mem_map]
  constructor
  · rintro ⟨x, hx, z, hz, rfl⟩
    exact ⟨hx, z, hz, rfl⟩
  · rintro ⟨hx, z, hz, he⟩
    exact ⟨e.1, hx, z, hz, by rw [he]⟩

/-! ### the reversed graph -/

/-- the heads of the edges that lead to y, in order -/
def into (es : List (Nat × Nat)) (y : Nat) : List Int := (es.filter fun e => e.2 == y).map fun e => (e.1 : Int)

theorem into_snoc_same (es : List (Nat × Nat)) (x y : Nat) : into (es ++ [(x, y)]) y = into es y ++ [(x : Int)] := by simp [into, List.filter_append]

theorem into_snoc_other (es : List (Nat × Nat)) (x y y' : Nat) (h : y ≠ y') : into (es ++ [(x, y)]) y' = into es y' := by simp [into, List.filter_append, h]

theorem into_length (es : List (Nat × Nat)) (y : Nat) : (into es y).length ≤ es.length := by
  simp only [into, List.length_map]
  exact List.length_filter_le _ _

def reversed (n : Nat) (es : List (Nat × Nat)) : List (List Int) := (List.range n).map (into es)

theorem reversed_getD (n : Nat) (es : List (Nat × Nat)) (y : Nat) (h : y < n) : (reversed n es).getD y [] = into es y := by simp [reversed, List.getD, h]

theorem roots_reversed (n : Nat) (es : List (Nat × Nat)) (hes : ∀ e ∈ es, e.1 < n ∧ e.2 < n) (i : Nat) : roots es i = roots (edges (reversed n es)) i := by
  refine roots_swap (fun x y h => ?_) (fun x y h => ?_) i
  · have hb := hes _ h
    have hy : y < n := hb.2
    rw [edges, mem_edgesTo]
    refine ⟨by simpa [reversed] using hy, (x : Int), ?_, by simp⟩
    show (x : Int) ∈ (reversed n es).getD y []
    rw [reversed_getD n es y hy]
    simp only [into, List.mem_map, List.mem_filter]
    exact ⟨(x, y), ⟨h, by simp⟩, rfl⟩
  · rw [edges, mem_edgesTo] at h
    obtain ⟨hx, z, hz, he⟩ := h
    have hx' : x < n := by simpa [reversed] using hx
    have hz' : z ∈ (reversed n es).getD x [] := hz
    rw [reversed_getD n es x hx'] at hz'
    simp only [into, List.mem_map, List.mem_filter] at hz'
    obtain ⟨e, ⟨he1, he2⟩, rfl⟩ := hz'
    have h2 : e.2 = x := by simpa using he2
    have h1 : e.1 = y := by simpa using he
    rw [← h1, ← h2]
    exact he1

end Go.Proofs.Qxb6615643a
