import Derived.Test.Qxb6615643aClone
import Derived.Maps.AppendAt
namespace Go.Proofs.Qxb6615643a
open Go.RowKit
set_option linter.unusedVariables false

/-- a slice of slices of the call's own, each row its own: outer block g, the rows from g + 1 on -/
structure RV (g n : Nat) (L : Nat → List Int) (w wr : World) : Prop where
  ex : ∃ vs : List Value, wr.ownsRow g 33 1 (.slice (some ⟨g, 0, none⟩) n n) n vs ∧
    (∀ (y : Nat) (v : Value), vs[y]? = some v → wr.ownsRow (g + 1) 3 1 v (L y).length ((L y).map (Value.int .i64))) ∧
    ∀ (y y' : Nat) (v v' : Value) (b : Nat), vs[y]? = some v → vs[y']? = some v' → y ≠ y' → v.ownBlock = some b → v'.ownBlock ≠ some b
  bel : Below g w wr

theorem RV.init {g n : Nat} {w wr : World} (h : wr.ownsRow g 33 1 (.slice (some ⟨g, 0, none⟩) n n) n (madeCells (Value.slice none 0 0).cells (n * 1)).toList) (hb : Below g w wr) : RV g n (fun _ => []) w wr := by
  have e : (madeCells (Value.slice none 0 0).cells (n * 1)).toList = List.replicate (n * 1) (Value.slice none 0 0) := toList_madeCells_one _ _
  rw [e] at h
  refine ⟨⟨_, h, fun y v hv => ?_, fun y y' v v' b hv hv' _ hbl => ?_⟩, hb⟩
  · have : v = .slice none 0 0 := by
      have := List.mem_of_getElem? hv
      exact (List.mem_replicate.1 this).2
    subst this
    exact World.ownsRow_nil _ _ _ _
  · have : v = .slice none 0 0 := by
      have := List.mem_of_getElem? hv
      exact (List.mem_replicate.1 this).2
    subst this
    simp [Value.ownBlock] at hbl

theorem RV.lt {g n : Nat} {L : Nat → List Int} {w wr : World} (h : RV g n L w wr) : g < wr.heap.size := by
  obtain ⟨vs, h, _⟩ := h.ex
  exact lt_of_block (row_of_owns h)

/-- the row at y, as the walk reads it -/
theorem RV.at_ {g n : Nat} {L : Nat → List Int} {w wr : World} (h : RV g n L w wr) (y : Nat) (hy : y < n) :
    ∃ va vc, wr.cell? ⟨g, y, none⟩ = some (.slice va (L y).length vc) ∧ wr.ownsRow (g + 1) 3 1 (.slice va (L y).length vc) (L y).length ((L y).map (Value.int .i64)) ∧
      ∀ (ob : Obj) (w1 : World) (v' : Value) (x : Int), w1.ownsRow (g + 1) 3 1 v' ((L y).length + 1) ((L y).map (Value.int .i64) ++ [.int .i64 x]) → (wr.alloc ob).grownBy w1 (Value.slice va (L y).length vc).ownBlock →
        (v'.ownBlock = (Value.slice va (L y).length vc).ownBlock ∨ v'.ownBlock = some (wr.alloc ob).heap.size) →
        w1.cell? ⟨g, y, none⟩ = some (.slice va (L y).length vc) ∧ w1.frozen? ⟨g, y, none⟩ = false ∧ RV g n (fun i => if i = y then L y ++ [x] else L i) w (w1.setCell ⟨g, y, none⟩ v') := by
  have hgl := h.lt
  obtain ⟨vs, ho, hrow, hdis⟩ := h.ex
  have hbel := h.bel
  have hlen := owns_len ho
  obtain ⟨v, hv⟩ : ∃ v, vs[y]? = some v := ⟨vs[y], List.getElem?_eq_getElem (by omega)⟩
  have hr := hrow y v hv
  obtain ⟨va, vc, rfl⟩ : ∃ va vc, v = .slice va (L y).length vc := by
    rcases hr.2 with ⟨rfl, h0⟩ | ⟨g', cap', cur, rfl, _⟩
    · exact ⟨none, 0, by rw [h0]⟩
    · exact ⟨_, _, rfl⟩
  have hcell : wr.cell? ⟨g, y, none⟩ = some (.slice va (L y).length vc) := by rw [ho.cellAt y (by omega)]; exact hv
  refine ⟨va, vc, hcell, hr, fun ob w1 v' x hown' hgrow hloc => ?_⟩
  have hngb : ∀ k, (Value.slice va (L y).length vc).ownBlock = some k → g + 1 ≤ k ∧ k < wr.heap.size := hr.lt
  have hne : some g ≠ (Value.slice va (L y).length vc).ownBlock := fun e => by have := (hngb g e.symm).1; omega
  have ho1 : w1.ownsRow g 33 1 (.slice (some ⟨g, 0, none⟩) n n) n vs := (ho.alloc ob).kept hgrow (.inr hne)
  have hst := ho1.stored y v'
  refine ⟨by rw [ho1.cellAt y (by omega)]; exact hv, ho1.frozenAt y, ⟨⟨_, hst.1, fun i u hu => ?_, fun i i' u u' b hu hu' hii hbl => ?_⟩, ?_⟩⟩
  · by_cases hiy : i = y
    · subst hiy
      rw [List.getElem?_set_self (by omega)] at hu
      obtain rfl := Option.some.inj hu
      rw [if_pos rfl]
      have : w1.ownsRow (g + 1) 3 1 v' (L i ++ [x]).length ((L i ++ [x]).map (Value.int .i64)) := by simpa using hown'
      exact ownsRow_setCell_below this (a := ⟨g, i, none⟩) (Nat.lt_succ_self g) _
    · rw [List.getElem?_set_ne (by omega)] at hu
      rw [if_neg hiy]
      have hri := (hrow i u hu).alloc ob
      refine ownsRow_setCell_below (hri.kept hgrow ?_) (a := ⟨g, y, none⟩) (Nat.lt_succ_self g) _
      cases hb : u.ownBlock with
      | none => exact .inl rfl
      | some b => exact .inr (fun e => hdis i y u _ b hu hv hiy hb e.symm)
  · have hnew : ∀ j t b, j ≠ y → vs[j]? = some t → t.ownBlock = some b → v'.ownBlock ≠ some b := by
      intro j t b hj ht hb e
      rcases hloc with h1 | h1
      · rw [h1] at e
        exact hdis j y t _ b ht hv hj hb e
      · rw [h1] at e
        have h2 := (hrow j t ht).lt b hb
        have h3 := Option.some.inj e
        have h4 : wr.heap.size + 1 = (wr.alloc ob).heap.size := by simp
        omega
    by_cases hiy : i = y
    · subst hiy
      rw [List.getElem?_set_self (by omega)] at hu
      obtain rfl := Option.some.inj hu
      rw [List.getElem?_set_ne hii] at hu'
      exact fun e => hnew i' u' b (fun e => hii e.symm) hu' e hbl
    · rw [List.getElem?_set_ne (fun e => hiy e.symm)] at hu
      by_cases hiy' : i' = y
      · subst hiy'
        rw [List.getElem?_set_self (by omega)] at hu'
        obtain rfl := Option.some.inj hu'
        exact hnew i u b hiy hu hbl
      · rw [List.getElem?_set_ne (fun e => hiy' e.symm)] at hu'
        exact hdis i i' u u' b hu hu' hii hbl
  · exact ((hbel.alloc (Nat.le_of_lt hgl) ob).grown hgrow (by simp; omega) (fun k e => by have := (hngb k e).1; omega)).setCell (p := ⟨g, y, none⟩) (Nat.le_refl g) _

theorem IntRow.of_owns {w : World} {B : Nat} {va : Option Addr} {vc : Nat} {zs : List Int} (h : w.ownsRow B 3 1 (.slice va zs.length vc) zs.length (zs.map (Value.int .i64))) : IntRow w va zs.length zs ∧ (va = none → zs.length = 0) := by
  rcases h.2 with ⟨h', h0⟩ | ⟨g', cap', cur, h', hb, hg, h3, h4, h5, h6⟩
  · exact ⟨⟨rfl, .inl h0⟩, fun _ => h0⟩
  · simp only [Value.slice.injEq] at h'
    obtain ⟨rfl, _, rfl⟩ := h'
    refine ⟨⟨rfl, .inr ⟨g', 0, rfl, lt_of_block hg, fun i hi => ?_⟩⟩, fun e => by cases e⟩
    have h' : w.ownsRow B 3 1 (.slice (some ⟨g', 0, none⟩) zs.length vc) zs.length (zs.map (Value.int .i64)) := h
    rw [Nat.zero_add, h'.cellAt i (by omega)]
    simp [List.getD, hi]

theorem RV.done {g n : Nat} {L : Nat → List Int} {w wr : World} (h : RV g n L w wr) {G : List (List Int)} (hG : G.length = n) (hGL : ∀ y, y < n → G.getD y [] = L y) : GrRow wr (some ⟨g, 0, none⟩) n G := by
  have hgl := h.lt
  obtain ⟨vs, ho, hrow, hdis⟩ := h.ex
  have hlen := owns_len ho
  have hsh : ∀ y, y < n → ∃ va vc, vs[y]? = some (.slice va (L y).length vc) ∧ IntRow wr va (L y).length (L y) ∧ (va = none → (L y).length = 0) := fun y hy => by
    obtain ⟨v, hv⟩ : ∃ v, vs[y]? = some v := ⟨vs[y], List.getElem?_eq_getElem (by omega)⟩
    have hr := hrow y v hv
    obtain ⟨va, vc, rfl⟩ : ∃ va vc, v = .slice va (L y).length vc := by
      rcases hr.2 with ⟨rfl, h0⟩ | ⟨g', cap', cur, rfl, _⟩
      · exact ⟨none, 0, by rw [h0]⟩
      · exact ⟨_, _, rfl⟩
    exact ⟨va, vc, hv, (IntRow.of_owns hr).1, (IntRow.of_owns hr).2⟩
  refine ⟨hG, fun i => addrOf vs[i]?, fun i => capOf vs[i]?, .inr ⟨g, 0, rfl, hgl, fun i hi => ?_⟩, fun i hi => ?_⟩
  · obtain ⟨va, vc, h1, h2, h3⟩ := hsh i hi
    rw [Nat.zero_add, ho.cellAt i (by omega), hGL i hi]
    simp only [h1, addrOf, capOf]
  · obtain ⟨va, vc, h1, h2, h3⟩ := hsh i hi
    rw [hGL i hi]
    simp only [h1, addrOf]
    exact ⟨h2, h3⟩

theorem RV.congr {g n : Nat} {L L' : Nat → List Int} {w wr : World} (h : RV g n L w wr) (e : L = L') : RV g n L' w wr := by
  subst e
  exact h

end Go.Proofs.Qxb6615643a
