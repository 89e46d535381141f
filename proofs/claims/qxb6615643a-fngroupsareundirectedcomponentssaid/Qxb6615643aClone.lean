import Derived.Test.Qxb6615643aBase
namespace Go.Proofs.Qxb6615643a
open Go.RowKit
set_option linter.unusedVariables false

theorem Try.info9 : (Try.prog.info? 9).map (fun i => (i.zero, i.size, i.bytes)) = some (some (.string ⟨#[]⟩), 1, 16) := by kernel_rfl
theorem Try.info3 : (Try.prog.info? 3).map (fun i => (i.zero, i.size, i.bytes)) = some (some (.int .i64 0), 1, 8) := by kernel_rfl
theorem Try.info33 : (Try.prog.info? 33).map (fun i => (i.zero, i.size, i.bytes)) = some (some (.slice none 0 0), 1, 24) := by kernel_rfl

theorem row_of_owns {w : World} {B n g : Nat} {e : TypeId} {xs : List Value} (h : w.ownsRow B e 1 (.slice (some ⟨g, 0, none⟩) n n) n xs) : w.heap[g]? = some (.cells xs.toArray e (0, 0)) := by
  rcases h.2 with ⟨h', _⟩ | ⟨g', cap', cur, h', _, hg, hnc, hcm, hcs, htake⟩
  · simp at h'
  · simp only [Value.slice.injEq, Option.some.injEq, Addr.mk.injEq, and_true, true_and] at h'
    obtain ⟨rfl, rfl⟩ := h'
    rw [hg, ← htake, List.take_of_length_le (by simp [hcs])]

theorem owns_len {w : World} {B n : Nat} {e : TypeId} {v : Value} {xs : List Value} (h : w.ownsRow B e 1 v n xs) : xs.length = n := by
  have := h.1
  omega

theorem splice_full {α : Type} (L cs : List α) (h : L.length = cs.length) : splice L 0 cs = cs := by
  simp [splice, ← h]

theorem strs_oneCell (ss : List ByteArray) : ∀ u ∈ ss.map Value.string, u.oneCell' = true := by
  intro u hu
  obtain ⟨_, _, rfl⟩ := List.mem_map.1 hu
  rfl

theorem StrRow.src {w w1 : World} {x : Addr} {len : Nat} {ss : List ByteArray} (h : StrRow w (some x) len ss) (hb : Below w.heap.size w w1) :
    ∀ j v, (ss.map Value.string)[j]? = some v → w1.cell? (x.add j) = some v := by
  intro j v hv
  have hj : j < ss.length := by simpa using (List.getElem?_eq_some_iff.1 hv).1
  obtain ⟨hz, h⟩ := h
  obtain ⟨b, o, hx, hlt, hc⟩ := h.resolve_left (by omega)
  obtain rfl := Option.some.inj hx
  rw [Addr.add_lit, hb.cell (p := ⟨b, o + j, none⟩) hlt, hc j (by omega), ← hv]
  simp [List.getD, hj]

theorem IntRow.src {w w1 : World} {x : Addr} {len : Nat} {zs : List Int} (h : IntRow w (some x) len zs) (hb : Below w.heap.size w w1) :
    ∀ j v, (zs.map (Value.int .i64))[j]? = some v → w1.cell? (x.add j) = some v := by
  intro j v hv
  have hj : j < zs.length := by simpa using (List.getElem?_eq_some_iff.1 hv).1
  obtain ⟨hz, h⟩ := h
  obtain ⟨b, o, hx, hlt, hc⟩ := h.resolve_left (by omega)
  obtain rfl := Option.some.inj hx
  rw [Addr.add_lit, hb.cell (p := ⟨b, o + j, none⟩) hlt, hc j (by omega), ← hv]
  simp [List.getD, hj]

theorem StrRow.of_block {w : World} {g len : Nat} {ss : List ByteArray} (hz : ss.length = len) (h : w.heap[g]? = some (.cells (ss.map Value.string).toArray 9 (0, 0))) : StrRow w (some ⟨g, 0, none⟩) len ss := by
  refine ⟨hz, .inr ⟨g, 0, rfl, lt_of_block h, fun i hi => ?_⟩⟩
  rw [Nat.zero_add, cell_of_row w g i _ 9 (0, 0) h]
  simp [List.getD, show i < ss.length by omega]

theorem IntRow.of_block {w : World} {g len : Nat} {zs : List Int} (hz : zs.length = len) (h : w.heap[g]? = some (.cells (zs.map (Value.int .i64)).toArray 3 (0, 0))) : IntRow w (some ⟨g, 0, none⟩) len zs := by
  refine ⟨hz, .inr ⟨g, 0, rfl, lt_of_block h, fun i hi => ?_⟩⟩
  rw [Nat.zero_add, cell_of_row w g i _ 3 (0, 0) h]
  simp [List.getD, show i < zs.length by omega]

def StrCloned (len : Nat) (ss : List ByteArray) (w : World) (e : Ending) (w' : World) : Prop :=
  ∃ a' cap', e = .returned (.slice a' len cap') ∧ (a' = none → len = 0) ∧ StrRow w' a' len ss ∧ Below w.heap.size w w'

def IntCloned (len : Nat) (zs : List Int) (w : World) (e : Ending) (w' : World) : Prop :=
  ∃ a' cap', e = .returned (.slice a' len cap') ∧ (a' = none → len = 0) ∧ IntRow w' a' len zs ∧ Below w.heap.size w w' ∧ ∀ b o, a' = some ⟨b, o, none⟩ → w.heap.size ≤ b

set_option maxHeartbeats 1000000 in
theorem cloneStrings_any (a : Option Addr) (len cap : Nat) (ss : List ByteArray) (w : World) (hs : StrRow w a len ss) (hn : a = none → len = 0) (hl : len ≤ 1048576) :
    Calls Try.prog 7 #[.slice a len cap] w fun e w' => StrCloned len ss w e w' := by
  have q22 : ∀ (w : World) (a : Option Addr) (n c n' c' : Nat), (binOp .eql 22 (.slice a n c) (.slice none n' c')).run Try.prog w = .ok (.bool a.isNone) w := fun w a n c n' c' => Lib.run_eql_slice_nil w _ _ a n c n' c' Try.underlying22
  obtain ⟨i0, hi, hz0, hz1, hz2⟩ := info_parts Try.info9
  cases a with
  | none =>
    obtain rfl := hn rfl
    go_enter Try.func7, Try.ntmps7
    go_wp2
    go_ret
    exact ⟨none, 0, rfl, fun _ => rfl, ⟨hs.1, .inl rfl⟩, Below.refl _ _⟩
  | some x =>
    clear hn
    have HZ : Hid (ss.length = len) := hs.1
    have HS : Hid (StrRow w (some x) len ss) := hs
    clear hs
    go_enter Try.func7, Try.ntmps7
    go_wp2_with (first | (at_make; refine wpList_make_full _ rfl (.tmp 7) (.tmp 7) 22 rfl w.heap.size 9 i0 (.string ⟨#[]⟩) 1 Try.underlying22 hi hz0 hz1 _ _ _ _ len rfl rfl rfl rfl (by rw [hz2]; omega) (by unfold maxLen; omega) (Nat.le_refl _) ?_; intro w1 hown hgrow) | (refine wpList_copy_splice rfl (.tmp 9) (.tmp 10) 22 22 rfl 9 Try.underlying22 (by kernel_rfl) _ _ len len len cap rfl rfl w.heap.size 0 _ 9 (row_of_owns hown) (ss.map Value.string) (by simp [HZ.out]) (fun _ => ⟨rfl, _, rfl, HS.out.src ((Below.refl _ _).grown hgrow (Nat.le_refl _) (fun k e => by cases e))⟩) (by rw [owns_len hown]; simp [HZ.out]) (strs_oneCell _) w.heap.size w ((Below.refl _ _).grown hgrow (Nat.le_refl _) (fun k e => by cases e)) (Nat.le_refl _) ?_; intro w2 HG2 hb2))
    go_ret
    have h := HG2.out
    rw [splice_full _ _ (by rw [owns_len hown]; simp [HZ.out])] at h
    exact ⟨_, _, rfl, fun h => by simp at h, StrRow.of_block HZ.out h, hb2⟩

set_option maxHeartbeats 1000000 in
theorem cloneInts_any (a : Option Addr) (len cap : Nat) (zs : List Int) (w : World) (hs : IntRow w a len zs) (hn : a = none → len = 0) (hl : len ≤ 1048576) :
    Calls Try.prog 15 #[.slice a len cap] w fun e w' => IntCloned len zs w e w' := by
  have q33 : ∀ (w : World) (a : Option Addr) (n c n' c' : Nat), (binOp .eql 33 (.slice a n c) (.slice none n' c')).run Try.prog w = .ok (.bool a.isNone) w := fun w a n c n' c' => Lib.run_eql_slice_nil w _ _ a n c n' c' Try.underlying33
  obtain ⟨i0, hi, hz0, hz1, hz2⟩ := info_parts Try.info3
  cases a with
  | none =>
    obtain rfl := hn rfl
    go_enter Try.func15, Try.ntmps15
    go_wp2
    go_ret
    exact ⟨none, 0, rfl, fun _ => rfl, ⟨hs.1, .inl rfl⟩, Below.refl _ _, fun b o h => by cases h⟩
  | some x =>
    clear hn
    have HZ : Hid (zs.length = len) := hs.1
    have HS : Hid (IntRow w (some x) len zs) := hs
    clear hs
    go_enter Try.func15, Try.ntmps15
    go_wp2_with (first | (at_make; refine wpList_make_full _ rfl (.tmp 7) (.tmp 7) 33 rfl w.heap.size 3 i0 (.int .i64 0) 1 Try.underlying33 hi hz0 hz1 _ _ _ _ len rfl rfl rfl rfl (by rw [hz2]; omega) (by unfold maxLen; omega) (Nat.le_refl _) ?_; intro w1 hown hgrow) | (refine wpList_copy_splice rfl (.tmp 9) (.tmp 10) 33 33 rfl 3 Try.underlying33 (by kernel_rfl) _ _ len len len cap rfl rfl w.heap.size 0 _ 3 (row_of_owns hown) (zs.map (Value.int .i64)) (by simp [HZ.out]) (fun _ => ⟨rfl, _, rfl, HS.out.src ((Below.refl _ _).grown hgrow (Nat.le_refl _) (fun k e => by cases e))⟩) (by rw [owns_len hown]; simp [HZ.out]) (ints_oneCell _ _) w.heap.size w ((Below.refl _ _).grown hgrow (Nat.le_refl _) (fun k e => by cases e)) (Nat.le_refl _) ?_; intro w2 HG2 hb2))
    go_ret
    have h := HG2.out
    rw [splice_full _ _ (by rw [owns_len hown]; simp [HZ.out])] at h
    exact ⟨_, _, rfl, fun h => by simp at h, IntRow.of_block HZ.out h, hb2, fun b o h => by cases h; exact Nat.le_refl _⟩

theorem IntRow.setCell {w : World} {a : Option Addr} {len : Nat} {zs : List Int} (h : IntRow w a len zs) {p : Addr} (hne : ∀ b o, a = some ⟨b, o, none⟩ → p.block ≠ b) (v : Value) : IntRow (w.setCell p v) a len zs := by
  obtain ⟨hz, h0 | ⟨b, o, rfl, hlt, hc⟩⟩ := h
  · exact ⟨hz, .inl h0⟩
  · refine ⟨hz, .inr ⟨b, o, rfl, by simpa [World.setCell] using hlt, fun i hi => ?_⟩⟩
    rw [World.cell?_of_block (w := w) (Below.heap_setCell w p v b (fun e => hne b o rfl e.symm))]
    exact hc i hi

/-- the clone's outer row behind k rounds -/
def GC (g len : Nat) (G : List (List Int)) (k : Nat) (w wr : World) : Prop :=
  ∃ vs : List Value, wr.ownsRow g 33 1 (.slice (some ⟨g, 0, none⟩) len len) len vs ∧ Below g w wr ∧ (∀ i, k ≤ i → i < len → vs[i]? = some (.slice none 0 0)) ∧
    ∀ i, i < k → ∃ ai ci, vs[i]? = some (.slice ai (G.getD i []).length ci) ∧ IntRow wr ai (G.getD i []).length (G.getD i []) ∧ (ai = none → (G.getD i []).length = 0) ∧ ∀ b o, ai = some ⟨b, o, none⟩ → g < b

theorem GC.init {g len : Nat} {G : List (List Int)} {w wr : World} (h : wr.ownsRow g 33 1 (.slice (some ⟨g, 0, none⟩) len len) len (madeCells (Value.slice none 0 0).cells (len * 1)).toList) (hb : Below g w wr) : GC g len G 0 w wr := by
  refine ⟨_, h, hb, fun i _ hi => ?_, fun i hi => by omega⟩
  show (madeCells #[Value.slice none 0 0] (len * 1)).toList[i]? = _
  rw [toList_madeCells_one]
  simp [hi]

theorem GC.lt {g len : Nat} {G : List (List Int)} {k : Nat} {w wr : World} (h : GC g len G k w wr) : g < wr.heap.size := by
  obtain ⟨vs, h, _⟩ := h
  exact lt_of_block (row_of_owns h)

theorem GC.call {g len : Nat} {G : List (List Int)} {k : Nat} {w wr w1 : World} (h : GC g len G k w wr) (hb1 : Below wr.heap.size wr w1) : GC g len G k w w1 := by
  have hlt := h.lt
  obtain ⟨vs, h, hb, hrest, hrow⟩ := h
  refine ⟨vs, ?_, hb.trans (hb1.mono (Nat.le_of_lt hlt)), hrest, fun i hi => ?_⟩
  · refine ⟨h.1, ?_⟩
    rcases h.2 with h' | ⟨g', cap', cur, h', h2, hg, h3⟩
    · exact .inl h'
    · exact .inr ⟨g', cap', cur, h', h2, by rw [hb1.block g' (lt_of_block hg)]; exact hg, h3⟩
  · obtain ⟨ai, ci, h1, h2, h3, h4⟩ := hrow i hi
    exact ⟨ai, ci, h1, h2.below hb1, h3, h4⟩

theorem GC.step {g len : Nat} {G : List (List Int)} {k : Nat} {w w1 : World} (h : GC g len G k w w1) (hk : k < len) {a' : Option Addr} {cap' : Nat} (hr : IntRow w1 a' (G.getD k []).length (G.getD k [])) (hn : a' = none → (G.getD k []).length = 0)
    (hge : ∀ b o, a' = some ⟨b, o, none⟩ → g < b) : GC g len G (k + 1) w (w1.setCell ⟨g, k, none⟩ (.slice a' (G.getD k []).length cap')) := by
  obtain ⟨vs, h, hb, hrest, hrow⟩ := h
  have hst := h.stored k (.slice a' (G.getD k []).length cap')
  have hl := owns_len h
  refine ⟨_, hst.1, hb.setCell (p := ⟨g, k, none⟩) (Nat.le_refl g) _, fun i h1 h2 => ?_, fun i hi => ?_⟩
  · rw [List.getElem?_set_ne (by omega)]
    exact hrest i (by omega) h2
  · by_cases hik : i = k
    · subst hik
      refine ⟨a', cap', by simp [hl, hk], hr.setCell (fun b o e => by have := hge b o e; show g ≠ b; omega) _, hn, hge⟩
    · obtain ⟨ai, ci, h1, h2, h3, h4⟩ := hrow i (by omega)
      refine ⟨ai, ci, ?_, h2.setCell (fun b o e => by have := h4 b o e; show g ≠ b; omega) _, h3, h4⟩
      rw [List.getElem?_set_ne (by omega)]
      exact h1

def addrOf : Option Value → Option Addr
  | some (.slice a _ _) => a
  | _ => none
def capOf : Option Value → Nat
  | some (.slice _ _ c) => c
  | _ => 0

theorem GC.bel {g len : Nat} {G : List (List Int)} {k : Nat} {w wr : World} (h : GC g len G k w wr) : Below g w wr := by
  obtain ⟨vs, h, hb, _⟩ := h
  exact hb

theorem GC.cell {g len : Nat} {G : List (List Int)} {k : Nat} {w wr : World} (h : GC g len G k w wr) (hk : k < len) : wr.cell? ⟨g, k, none⟩ = some (.slice none 0 0) ∧ wr.frozen? ⟨g, k, none⟩ = false := by
  obtain ⟨vs, h, hb, hrest, _⟩ := h
  exact ⟨by rw [h.cellAt k (by omega)]; exact hrest k (Nat.le_refl _) hk, h.frozenAt k⟩

theorem GC.done {g len : Nat} {G : List (List Int)} {w wr : World} (hG : G.length = len) (h : GC g len G len w wr) : GrRow wr (some ⟨g, 0, none⟩) len G := by
  have hlt := h.lt
  obtain ⟨vs, h, hb, hrest, hrow⟩ := h
  refine ⟨hG, fun i => addrOf vs[i]?, fun i => capOf vs[i]?, .inr ⟨g, 0, rfl, hlt, fun i hi => ?_⟩, fun i hi => ?_⟩
  · obtain ⟨ai, ci, h1, h2, h3, h4⟩ := hrow i hi
    rw [Nat.zero_add, h.cellAt i (by omega)]
    simp only [h1, addrOf, capOf]
  · obtain ⟨ai, ci, h1, h2, h3, h4⟩ := hrow i hi
    simp only [h1, addrOf]
    exact ⟨h2, h3⟩

def GrCloned (len : Nat) (G : List (List Int)) (w : World) (e : Ending) (w' : World) : Prop :=
  ∃ a' cap', e = .returned (.slice a' len cap') ∧ (a' = none → len = 0) ∧ GrRow w' a' len G ∧ Below w.heap.size w w'

set_option maxHeartbeats 1000000 in
theorem cloneGraph_any (a : Option Addr) (len cap : Nat) (G : List (List Int)) (w : World) (hs : GrRow w a len G) (hn : a = none → len = 0) (hl : len ≤ 1048576) (hr : ∀ i, i < len → (G.getD i []).length ≤ 1048576) :
    Calls Try.prog 8 #[.slice a len cap] w fun e w' => GrCloned len G w e w' := by
  have q23 : ∀ (w : World) (a : Option Addr) (n c n' c' : Nat), (binOp .eql 23 (.slice a n c) (.slice none n' c')).run Try.prog w = .ok (.bool a.isNone) w := fun w a n c n' c' => Lib.run_eql_slice_nil w _ _ a n c n' c' Try.underlying23
  obtain ⟨i0, hi, hz0, hz1, hz2⟩ := info_parts Try.info33
  cases a with
  | none =>
    obtain rfl := hn rfl
    go_enter Try.func8, Try.ntmps8
    go_wp2
    go_ret
    exact ⟨none, 0, rfl, fun _ => rfl, hs, Below.refl _ _⟩
  | some x =>
    clear hn
    have HZ : Hid (G.length = len) := hs.1
    have HR : Hid (∀ i, i < len → (G.getD i []).length ≤ 1048576) := hr
    have HS : Hid (GrRow w (some x) len G) := hs
    clear hr hs
    go_enter Try.func8, Try.ntmps8
    go_wp2_with (at_make; refine wpList_make_full _ rfl (.tmp 8) (.tmp 8) 23 rfl w.heap.size 33 i0 (.slice none 0 0) 1 Try.underlying23 hi hz0 hz1 _ _ _ _ len rfl rfl rfl rfl (by rw [hz2]; omega) (by unfold maxLen; omega) (Nat.le_refl _) ?_; intro w1 hown hgrow)
    have hG0 : GC w.heap.size len G 0 w w1 := GC.init hown ((Below.refl _ _).grown hgrow (Nat.le_refl _) (fun k e => by cases e))
    clear hown hgrow
    go_loopw [4] (fun i wr => ∃ k : Nat, k ≤ len ∧ i = .int .i64 k ∧ GC w.heap.size len G k w wr) (fun i _ => len - (intOf i).toNat)
    case atStart => exact ⟨0, Nat.zero_le _, rfl, hG0⟩
    case round =>
      obtain ⟨k, hk, rfl, hGr⟩ := hrel
      clear hG0
      by_cases hlt : k < len
      · obtain ⟨_, fa, fc, h0, hrow⟩ := HS.out
        obtain ⟨b, o, hx, hb, hc⟩ := h0.resolve_left (by omega)
        obtain rfl := Option.some.inj hx
        have hbel := hGr.bel
        have hck : wr.cell? ⟨b, o + k, none⟩ = some (.slice (fa k) (G.getD k []).length (fc k)) := (hbel.cell (p := ⟨b, o + k, none⟩) hb).trans (hc k hlt)
        have hin : IntRow wr (fa k) (G.getD k []).length (G.getD k []) := (hrow k hlt).1.below hbel
        have hnn := (hrow k hlt).2
        have hll := HR.out k hlt
        clear hc hx h0 hrow hbel HS
        obtain ⟨gk, HGK⟩ : ∃ gk, Hid (G.getD k [] = gk) := ⟨_, rfl⟩
        rw [HGK.out] at hck hin hnn hll
        go_wp2_with fail
        refine (cloneInts_any _ _ _ gk _ hin hnn (by omega)).mono ?_
        rintro e w3 ⟨a3, c3, rfl, hn3, hr3, hb3, hge3⟩
        have hG3 := hGr.call hb3
        have hgl := hGr.lt
        have hst := hG3.step hlt (a' := a3) (cap' := c3) (by rw [HGK.out]; exact hr3) (by rw [HGK.out]; exact hn3) (fun b o e => Nat.lt_of_lt_of_le hgl (hge3 b o e))
        rw [HGK.out] at hst
        have HST : Hid (GC w.heap.size len G (k + 1) w (w3.setCell ⟨w.heap.size, k, none⟩ (.slice a3 gk.length c3))) := hst
        obtain ⟨hcg, hfg⟩ := hG3.cell hlt
        clear hst hG3 hGr hr3 hb3 hge3 hck hin
        go_wp2
        go_roundw
        case rel => exact ⟨k + 1, by omega, by go_num, HST.out⟩
        case measure => simp [intOf]; omega
      · obtain rfl : k = len := by omega
        have hd := hGr.done HZ.out
        have hbel := hGr.bel
        clear hGr
        go_wp2
        go_ret
        exact ⟨_, _, rfl, fun h => by simp at h, hd, hbel⟩

end Go.Proofs.Qxb6615643a
