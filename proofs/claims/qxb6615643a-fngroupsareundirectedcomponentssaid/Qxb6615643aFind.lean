import Derived.Test.Qxb6615643aEnts
import Derived.Deep.RegionHeld
namespace Go.Proofs.Qxb6615643a
open Go.RowKit
set_option linter.unusedVariables false

/-- block g is the row fs -/
def FR (g : Nat) (fs : List Nat) (w : World) : Prop := w.heap[g]? = some (.cells (fs.map fun v : Nat => Value.int .i64 (v : Int)).toArray 3 (0, 0))

theorem FR.cell {g : Nat} {fs : List Nat} {w : World} (h : FR g fs w) (i : Nat) (hi : i < fs.length) : w.cell? ⟨g, i, none⟩ = some (.int .i64 ((fs.getD i 0 : Nat) : Int)) := by
  rw [cell_of_row w g i _ 3 (0, 0) h]
  simp [List.getD, hi]

theorem FR.frozen {g : Nat} {fs : List Nat} {w : World} (h : FR g fs w) (i : Nat) : w.frozen? ⟨g, i, none⟩ = false := frozen_of_row w g i _ 3 h

theorem FR.set {g : Nat} {fs : List Nat} {w : World} (h : FR g fs w) (x v : Nat) : FR g (fs.set x v) (w.setCell ⟨g, x, none⟩ (.int .i64 (v : Int))) := by
  have := heap_setCell_same w g x _ 3 (.int .i64 (v : Int)) h
  unfold FR
  rw [this]
  simp [List.map_set]

theorem FR.drewN {g : Nat} {fs : List Nat} {w : World} (h : FR g fs w) (n : Nat) : FR g fs (w.drewN n) := h

def FindEnd (gf g n : Nat) (r : Nat → Nat) (x : Nat) (w : World) (e : Ending) (w' : World) : Prop :=
  e = .returned (.int .i64 ((r x : Nat) : Int)) ∧ ∃ fs, Rep n fs r ∧ FR g fs w' ∧ w.grownBy w' (some g)

theorem grown_set {w w1 : World} {g : Nat} (h : w.grownBy w1 (some g)) (x : Nat) (v : Value) : w.grownBy (w1.setCell ⟨g, x, none⟩ v) (some g) :=
  ⟨h.os, h.tape, h.output, by simpa [World.setCell] using h.size, fun k hk hne => by rw [Below.heap_setCell w1 ⟨g, x, none⟩ v k (fun e => hne (by rw [e]))]; exact h.block k hk hne⟩

theorem grown_drew {w w1 : World} {row : Option Nat} (h : w.grownBy w1 row) : w.grownBy w1.drew row := ⟨h.os, h.tape, h.output, h.size, h.block⟩

set_option maxHeartbeats 1000000 in
theorem find_any (gf g n : Nat) (fs : List Nat) (r : Nat → Nat) (x : Nat) (w : World) (hx : x < n) (hn : n ≤ 1048576) (hR : Rep n fs r) (hF : FR g fs w) (hgf : w.cell? ⟨gf, 0, none⟩ = some (.slice (some ⟨g, 0, none⟩) n n)) (hne : gf ≠ g) :
    Calls Try.prog 16 #[.int .i64 x, .pointer (some ⟨gf, 0, none⟩)] w fun e w' => FindEnd gf g n r x w e w' := by
  go_enter Try.func16, Try.ntmps16
  go_wp2
  go_loopw [0] (fun s wr => ∃ (y : Nat) (fs' : List Nat), s = .int .i64 (y : Int) ∧ y < n ∧ r y = r x ∧ Rep n fs' r ∧ FR g fs' wr ∧ wr.cell? ⟨gf, 0, none⟩ = some (.slice (some ⟨g, 0, none⟩) n n) ∧ w.grownBy wr (some g)) (fun s _ => (intOf s).toNat)
  case atStart => exact ⟨x, fs, rfl, hx, rfl, hR, hF, hgf, World.grownBy.refl _ _⟩
  case round =>
    obtain ⟨y, fs', rfl, hy, hry, hRr, hFr, hgfr, hgr⟩ := hrel
    have HRY : Hid (r y = r x) := hry
    have HRR : Hid (Rep n fs' r) := hRr
    have HFR : Hid (FR g fs' wr) := hFr
    have hc1 := hFr.cell y (by rw [hRr.len]; exact hy)
    have hz1 := hFr.frozen y
    have hle := hRr.le y hy
    have hc2 := hFr.cell (fs'.getD y 0) (by rw [hRr.len]; omega)
    by_cases he : fs'.getD y 0 = y
    · have hfix := hRr.fix y hy he
      have HE : Hid (r x = y) := hry.symm.trans hfix
      rw [he] at hc1
      clear hR hF hgf hry hRr hFr he hc2 hle hfix
      go_wp2
      go_ret
      exact ⟨by rw [HE.out]; rfl, fs', HRR.out, HFR.out, hgr⟩
    · have hhal := hRr.halve y hy he
      have hle2 := hRr.le (fs'.getD y 0) (by omega)
      have hrt := (hRr.rt (fs'.getD y 0) (by omega)).trans ((hRr.rt y hy).trans hry)
      obtain ⟨f1, HF1⟩ : ∃ f1, Hid (fs'.getD y 0 = f1) := ⟨_, rfl⟩
      rw [HF1.out] at hc1 hc2 he hle hle2 hhal hrt
      obtain ⟨f2, HF2⟩ : ∃ f2, Hid (fs'.getD f1 0 = f2) := ⟨_, rfl⟩
      rw [HF2.out] at hc2 hle2 hhal hrt
      have hset := HFR.out.set y f2
      have HH : Hid (Rep n (fs'.set y f2) r ∧ r f2 = r x) := ⟨hhal, hrt⟩
      have HS : Hid (FR g (fs'.set y f2) (wr.setCell ⟨g, y, none⟩ (.int .i64 (f2 : Int)))) := hset
      clear hR hF hgf hry hRr hFr hhal hrt hset
      have hlt1 : f1 < y := by omega
      have hne1 : ((f1 : Int) != (y : Int)) = true := by simp; omega
      clear he
      go_wp2
      go_region
      go_wp2
      go_roundw
      case rel => exact ⟨f2, fs'.set y f2, rfl, by omega, HH.out.2, HH.out.1, HS.out, by go_simp, grown_drew (grown_set hgr y _)⟩
      case measure => simp [intOf]; omega

end Go.Proofs.Qxb6615643a
