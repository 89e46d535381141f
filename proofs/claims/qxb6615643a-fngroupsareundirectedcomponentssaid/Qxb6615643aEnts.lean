import Derived.Test.Qxb6615643aClone
namespace Go.Proofs.Qxb6615643a
open Go.RowKit
set_option linter.unusedVariables false

theorem Try.info65 : (Try.prog.info? 65).map (fun i => (i.zero, i.size, i.bytes)) = some (some (.agg #[.string ⟨#[]⟩, .string ⟨#[]⟩, .int .i64 0, .int .i32 0]), 4, 48) := by kernel_rfl

/-- the ids of a slice of entities -/
def EntRow (w : World) (a : Option Addr) (len : Nat) (ss : List ByteArray) : Prop :=
  ss.length = len ∧ (len = 0 ∨ ∃ b o, a = some ⟨b, o, none⟩ ∧ b < w.heap.size ∧ ∀ i, i < len → w.cell? ⟨b, o + i * 4, none⟩ = some (.string (ss.getD i ByteArray.empty)))

/-- the new row of entities behind k rounds -/
def EC (g len : Nat) (ss : List ByteArray) (k : Nat) (w wr : World) : Prop :=
  ∃ vs : List Value, wr.ownsRow g 65 4 (.slice (some ⟨g, 0, none⟩) len len) len vs ∧ Below g w wr ∧ (∀ i, k ≤ i → i < len → ∃ s, vs[i * 4]? = some (.string s)) ∧ ∀ i, i < k → vs[i * 4]? = some (.string (ss.getD i ByteArray.empty))

theorem EC.init {g len : Nat} {ss : List ByteArray} {w wr : World} (h : wr.ownsRow g 65 4 (.slice (some ⟨g, 0, none⟩) len len) len (madeCells (Value.agg #[.string ⟨#[]⟩, .string ⟨#[]⟩, .int .i64 0, .int .i32 0]).cells (len * 4)).toList) (hb : Below g w wr) : EC g len ss 0 w wr := by
  refine ⟨_, h, hb, fun i _ hi => ⟨⟨#[]⟩, ?_⟩, fun i hi => by omega⟩
  have : i * 4 < len * 4 := by omega
  simp [madeCells, Value.cells, this]

theorem EC.step {g len : Nat} {ss : List ByteArray} {k : Nat} {w wr : World} (h : EC g len ss k w wr) (hk : k < len) : EC g len ss (k + 1) w (wr.setCell ⟨g, k * 4, none⟩ (.string (ss.getD k ByteArray.empty))) := by
  obtain ⟨vs, h, hb, hrest, hrow⟩ := h
  have hst := h.stored (k * 4) (.string (ss.getD k ByteArray.empty))
  have hl := h.1
  refine ⟨_, hst.1, hb.setCell (p := ⟨g, k * 4, none⟩) (Nat.le_refl g) _, fun i h1 h2 => ?_, fun i hi => ?_⟩
  · rw [List.getElem?_set_ne (by omega)]
    exact hrest i (by omega) h2
  · by_cases hik : i = k
    · subst hik
      rw [List.getElem?_set_self (by omega)]
    · rw [List.getElem?_set_ne (by omega)]
      exact hrow i (by omega)

theorem EC.cell {g len : Nat} {ss : List ByteArray} {k : Nat} {w wr : World} (h : EC g len ss k w wr) (hk : k < len) : (∃ s, wr.cell? ⟨g, k * 4, none⟩ = some (.string s)) ∧ wr.frozen? ⟨g, k * 4, none⟩ = false := by
  obtain ⟨vs, h, hb, hrest, _⟩ := h
  obtain ⟨s, hs⟩ := hrest k (Nat.le_refl _) hk
  exact ⟨⟨s, by rw [h.cellAt (k * 4) (by omega)]; exact hs⟩, h.frozenAt _⟩

theorem EC.bel {g len : Nat} {ss : List ByteArray} {k : Nat} {w wr : World} (h : EC g len ss k w wr) : Below g w wr := by
  obtain ⟨vs, h, hb, _⟩ := h
  exact hb

theorem EC.done {g len : Nat} {ss : List ByteArray} {w wr : World} (hz : ss.length = len) (h : EC g len ss len w wr) : EntRow wr (some ⟨g, 0, none⟩) len ss := by
  obtain ⟨vs, h, hb, hrest, hrow⟩ := h
  refine ⟨hz, ?_⟩
  by_cases h0 : len = 0
  · exact .inl h0
  · have hc : ∀ i, i < len → wr.cell? ⟨g, 0 + i * 4, none⟩ = some (.string (ss.getD i ByteArray.empty)) := fun i hi => by
      rw [Nat.zero_add, h.cellAt (i * 4) (by omega)]
      exact hrow i hi
    exact .inr ⟨g, 0, rfl, World.block_lt_of_cell? _ _ (hc 0 (by omega)), hc⟩

theorem EntRow.below {w w' : World} {a : Option Addr} {len : Nat} {ss : List ByteArray} (h : EntRow w a len ss) (hb : Below w.heap.size w w') : EntRow w' a len ss := by
  obtain ⟨hz, h0 | ⟨b, o, rfl, hlt, hc⟩⟩ := h
  · exact ⟨hz, .inl h0⟩
  · exact ⟨hz, .inr ⟨b, o, rfl, Nat.lt_of_lt_of_le hlt hb.size, fun i hi => (hb.cell (p := ⟨b, o + i * 4, none⟩) hlt).trans (hc i hi)⟩⟩

def EntEnd (len : Nat) (ss : List ByteArray) (w : World) (e : Ending) (w' : World) : Prop :=
  ∃ a' cap', e = .returned (.slice a' len cap') ∧ EntRow w' a' len ss ∧ Below w.heap.size w w'

set_option maxHeartbeats 1000000 in
theorem entitiesOf_any (a : Option Addr) (len cap : Nat) (ss : List ByteArray) (w : World) (hs : StrRow w a len ss) (hl : len ≤ 1048576) :
    Calls Try.prog 10 #[.slice a len cap] w fun e w' => EntEnd len ss w e w' := by
  obtain ⟨i0, hi, hz0, hz1, hz2⟩ := info_parts Try.info65
  have HZ : Hid (ss.length = len) := hs.1
  go_enter Try.func10, Try.ntmps10
  go_wp2_with (at_make; refine wpList_make_full _ rfl (.tmp 6) (.tmp 6) 30 rfl w.heap.size 65 i0 (.agg #[.string ⟨#[]⟩, .string ⟨#[]⟩, .int .i64 0, .int .i32 0]) 4 Try.underlying30 hi hz0 hz1 _ _ _ _ len rfl rfl rfl rfl (by rw [hz2]; omega) (by unfold maxLen; omega) (Nat.le_refl _) ?_; intro w1 hown hgrow)
  have hE0 : EC w.heap.size len ss 0 w w1 := EC.init hown ((Below.refl _ _).grown hgrow (Nat.le_refl _) (fun k e => by cases e))
  clear hown hgrow
  go_loopw [4] (fun i wr => ∃ k : Nat, k ≤ len ∧ i = .int .i64 k ∧ EC w.heap.size len ss k w wr) (fun i _ => len - (intOf i).toNat)
  case atStart => exact ⟨0, Nat.zero_le _, rfl, hE0⟩
  case round =>
    obtain ⟨k, hk, rfl, hEr⟩ := hrel
    clear hE0
    by_cases hlt : k < len
    · obtain ⟨b, o, rfl, hb, hc⟩ := hs.2.resolve_left (by omega)
      have hck := (hEr.bel.cell (p := ⟨b, o + k, none⟩) hb).trans (hc k hlt)
      obtain ⟨⟨s0, hcg⟩, hfg⟩ := hEr.cell hlt
      have hst := hEr.step hlt
      obtain ⟨sk, HSK⟩ : ∃ sk, Hid (ss.getD k ByteArray.empty = sk) := ⟨_, rfl⟩
      rw [HSK.out] at hck hst
      have HST : Hid (EC w.heap.size len ss (k + 1) w (wr.setCell ⟨w.heap.size, k * 4, none⟩ (.string sk))) := hst
      clear hc hs hst hEr
      go_wp2
      go_roundw
      case rel => exact ⟨k + 1, by omega, by go_num, HST.out⟩
      case measure => simp [intOf]; omega
    · obtain rfl : k = len := by omega
      have hd := hEr.done HZ.out
      have hbel := hEr.bel
      clear hEr hs
      go_wp2
      go_ret
      exact ⟨_, _, rfl, hd, hbel⟩

theorem Try.info68 : (Try.prog.info? 68).map (fun i => (i.zero, i.size, i.bytes)) = some (some (.slice none 0 0), 1, 24) := by kernel_rfl

/-- the cells of a Day that Groups reads -/
structure DayOK (d st rg cg : Nat) (ea : Option Addr) (ecap : Nat) (ha : Option Addr) (hcap : Nat) (ua : Option Addr) (ucap n : Nat) (gm : Value) (w : World) : Prop where
  d0 : w.cell? ⟨d, 0, none⟩ = some (.pointer (some ⟨rg, 0, none⟩))
  d2 : w.cell? ⟨d, 2, none⟩ = some (.pointer (some ⟨st, 0, none⟩))
  rg1 : w.cell? ⟨rg, 1, none⟩ = some (.slice ea n ecap)
  st0 : w.cell? ⟨st, 0, none⟩ = some (.slice ha n hcap)
  st6 : w.cell? ⟨st, 6, none⟩ = some gm
  st7 : w.cell? ⟨st, 7, none⟩ = some (.pointer (some ⟨cg, 0, none⟩))
  cg0 : w.cell? ⟨cg, 0, none⟩ = some (.slice ua n ucap)
  fz : w.frozen? ⟨st, 6, none⟩ = false

def DayEnd (ea : Option Addr) (ecap : Nat) (ua : Option Addr) (ucap n : Nat) (w : World) (e : Ending) (w' : World) : Prop :=
  ∃ d st rg cg ha hcap, e = .returned (.pointer (some ⟨d, 0, none⟩)) ∧ DayOK d st rg cg ea ecap ha hcap ua ucap n (.map none) w' ∧ Below w.heap.size w w' ∧ w.heap.size ≤ st ∧ st ≠ d ∧ st ≠ rg ∧ st ≠ cg

theorem day_laid (w w1 : World) (rc : Array Value) (ea : Option Addr) (ecap : Nat) (ua : Option Addr) (ucap n : Nat) (hrc : rc[1]? = some (.slice ea n ecap)) (hg : (w.alloc (.cells rc 48)).grownBy w1 none) :
    DayEnd ea ecap ua ucap n w (.returned (.pointer (some ⟨w1.heap.size + 1 + 1, 0, none⟩)))
      (((w1.alloc (.cells #[.slice ua n ucap, .slice none 0 0, .slice none 0 0, .int .u32 0] 55)).alloc
        (.cells #[.slice (some ⟨w.heap.size + 1, 0, none⟩) n n, .slice none 0 0, .slice ua n ucap, .slice none 0 0, .map none, .map none, .map none, .pointer (some ⟨w1.heap.size, 0, none⟩)] 59)).alloc
        (.cells #[.pointer (some ⟨w.heap.size, 0, none⟩), .int .i32 0, .pointer (some ⟨w1.heap.size + 1, 0, none⟩)] 62)) := by
  have hb1 : Below (w.heap.size + 1) (w.alloc (.cells rc 48)) w1 := (Below.refl _ _).grown hg (by simp) (fun k e => by cases e)
  have hsz : w.heap.size + 1 ≤ w1.heap.size := by have := hb1.size; simpa using this
  have hr1 : w1.cell? ⟨w.heap.size, 1, none⟩ = some (.slice ea n ecap) := by
    rw [hb1.cell (p := ⟨w.heap.size, 1, none⟩) (Nat.lt_succ_self _), World.cell?_alloc_at (hn := rfl)]
    exact hrc
  have hbw : Below w.heap.size w w1 := ((Below.refl _ _).alloc (Nat.le_refl _) _).trans (hb1.mono (Nat.le_succ _))
  clear hb1 hg
  have hb3 : ∀ o1 o2 o3 : Obj, Below w1.heap.size w1 (((w1.alloc o1).alloc o2).alloc o3) := fun o1 o2 o3 => (((Below.refl _ _).alloc (Nat.le_refl _) _).alloc (by simp) _).alloc (by simp; omega) _
  refine ⟨w1.heap.size + 1 + 1, w1.heap.size + 1, w.heap.size, w1.heap.size, some ⟨w.heap.size + 1, 0, none⟩, n, rfl, ?_, ?_, by omega, by omega, by omega, by omega⟩
  · constructor
    · go_simp
    · go_simp
    · exact ((hb3 _ _ _).cell (p := ⟨w.heap.size, 1, none⟩) (by show w.heap.size < w1.heap.size; omega)).trans hr1
    · go_simp
    · go_simp
    · go_simp
    · go_simp
    · go_simp
  · exact ((hbw.alloc hbw.size _).alloc (by have := hbw.size; simp; omega) _).alloc (by have := hbw.size; simp; omega) _

set_option maxHeartbeats 1000000 in
theorem newDay_any (ea : Option Addr) (ecap : Nat) (ua : Option Addr) (ucap n : Nat) (w : World) (hl : n ≤ 1048576) :
    Calls Try.prog 9 #[.slice ea n ecap, .slice ua n ucap] w fun e w' => DayEnd ea ecap ua ucap n w e w' := by
  obtain ⟨i0, hi, hz0, hz1, hz2⟩ := info_parts Try.info68
  go_enter Try.func9, Try.ntmps9
  go_wp2_with (at_make; refine wpList_make_full _ rfl (.tmp 9) (.tmp 9) 50 rfl w.heap.size 68 i0 (.slice none 0 0) 1 Try.underlying50 hi hz0 hz1 _ _ _ _ n rfl rfl rfl rfl (by rw [hz2]; omega) (by unfold maxLen; omega) (by simp) ?_; intro w1 hown hgrow)
  go_ret
  exact day_laid w w1 _ ea ecap ua ucap n rfl hgrow

end Go.Proofs.Qxb6615643a
