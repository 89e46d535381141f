import Derived.Test.Qxb6615047aDone
import Derived.WalkSmall
namespace Go.Proofs.Qxb6615047a
open Go.RowKit
set_option linter.unusedVariables false

theorem Seg.toB {w w' : World} {a : Option Addr} {len : Nat} {zs : List Int} (h : Seg w a len zs) (hb : Below w.heap.size w w') : SegB w.heap.size w' a zs := by
  obtain ⟨hz, h0 | ⟨b, o, rfl, hlt, hc⟩⟩ := h
  · exact .inl (List.eq_nil_of_length_eq_zero (by omega))
  · exact .inr ⟨b, o, rfl, hlt, fun i hi => (hb.cell (p := ⟨b, o + i, none⟩) hlt).trans (hc i (by omega))⟩

theorem SegB.toSeg {B : Nat} {w : World} {a : Option Addr} {zs : List Int} (h : SegB B w a zs) (hB : B ≤ w.heap.size) : Seg w a zs.length zs := by
  rcases h with rfl | ⟨b, o, rfl, hlt, hc⟩
  · exact ⟨rfl, .inl rfl⟩
  · exact ⟨rfl, .inr ⟨b, o, rfl, by omega, hc⟩⟩

/-- the cursor, freshly laid -/
theorem cur_new (w : World) (a : Option Addr) (len cap : Nat) (ok : Bool) (zs : List Int) (o : Obj) (hs : Seg w a len zs) (hcap : len ≤ cap) :
    Cur w.heap.size w.heap.size ok zs ((w.alloc (Obj.cells #[Value.slice a len cap, Value.bool ok] 39)).alloc o) := by
  have hb : Below w.heap.size w ((w.alloc (Obj.cells #[Value.slice a len cap, Value.bool ok] 39)).alloc o) := ((Below.refl _ _).alloc (Nat.le_refl _) _).alloc (by simp) _
  have hz : zs.length = len := hs.1
  subst hz
  refine ⟨a, cap, ?_, hcap, hs.toB hb, ?_, ?_⟩
  · go_simp
  · go_simp
  · go_simp

theorem cd_below {w w1 : World} {o1 o2 : Obj} (h : Below w.heap.size ((w.alloc o1).alloc o2) w1) (n : Nat) : Below w.heap.size w (w1.drewN n) :=
  below_drewN ((((Below.refl _ _).alloc (Nat.le_refl _) _).alloc (by simp) _).trans h) n

def CD (zs : List Int) (ok : Bool) (w : World) (e : Ending) (w' : World) : Prop :=
  ∃ a' len' cap', e = .returned (.tuple #[.bool (ok && zs.all blk), .int .i64 (if ok && zs.all blk then 1 else 0), .slice a' len' cap', .bool ok]) ∧ Below w.heap.size w w'

set_option maxHeartbeats 1000000 in
theorem cursorDone_any (a : Option Addr) (len cap : Nat) (ok : Bool) (zs : List Int) (w : World) (hs : Seg w a len zs) (hcap : len ≤ cap) (hl : len ≤ 2097152) :
    Calls Try.prog 13 #[.slice a len cap, .bool ok] w fun e w' => CD zs ok w e w' := by
  have hcn := cur_new w a len cap ok zs (Obj.cells #[Value.int IntKind.i64 0] 3) hs hcap
  have HC : Hid (_) := hcn
  have HL : Hid (zs.length ≤ 2097152) := by have := hs.1; show _ ≤ _; omega
  clear hcn hs
  go_enter Try.func13, Try.ntmps13
  go_wp2_with (go_at_call 17; go_in)
  refine (done20 w.heap.size w.heap.size (w.heap.size + 1) ok 0 zs _ HC.out (Nat.le_refl _) (by omega) (by omega) (by go_simp) (by go_simp) (by omega) (by omega) HL.out).mono ?_
  rintro e w1 ⟨rfl, ⟨a1, cap1, hc0, hcap1, hseg, hc1, hfz⟩, hk, hkf, hbel⟩
  cases hok : (ok && zs.all blk) with
  | true =>
    rw [hok] at hk
    simp only [if_true] at hk
    have HK : Hid ((ok && zs.all blk) = true) := hok
    clear hok HC
    go_wp2
    go_quiet (fail)
    go_wp2
    exact bodyPost_ret (v := .tuple #[.bool true, .int .i64 1, .slice a1 (zs.dropWhile blk).length cap1, .bool ok]) (by simp [results, Try.results13, go_sem]) rfl ⟨a1, (zs.dropWhile blk).length, cap1, by rw [HK.out]; simp, cd_below hbel _⟩
  | false =>
    rw [hok] at hk
    simp only [Bool.false_eq_true, if_false] at hk
    have HK : Hid ((ok && zs.all blk) = false) := hok
    clear hok HC
    go_wp2
    go_quiet (fail)
    go_wp2
    exact bodyPost_ret (v := .tuple #[.bool false, .int .i64 0, .slice a1 (zs.dropWhile blk).length cap1, .bool ok]) (by simp [results, Try.results13, go_sem]) rfl ⟨a1, (zs.dropWhile blk).length, cap1, by rw [HK.out]; simp, cd_below hbel _⟩

def CN (zs : List Int) (w : World) (e : Ending) (w' : World) : Prop :=
  ∃ a' cap', e = .returned (.tuple #[.bool (zs.all blk), .bool (zs.all blk), .slice a' (zs.dropWhile blk).length cap', .bool true]) ∧ Seg w' a' (zs.dropWhile blk).length (zs.dropWhile blk) ∧ Below w.heap.size w w'

theorem SegB.drewN {B : Nat} {w : World} {a : Option Addr} {zs : List Int} (h : SegB B w a zs) (n : Nat) : SegB B (w.drewN n) a zs := h.below (below_drewN (Below.refl _ _) n)

theorem seg_end {w w1 : World} {o1 o2 : Obj} {a : Option Addr} {zs : List Int} (h : Below w.heap.size ((w.alloc o1).alloc o2) w1) (hs : SegB w.heap.size w1 a zs) (n : Nat) : Seg (w1.drewN n) a zs.length zs :=
  (hs.drewN n).toSeg (cd_below h n).size

set_option maxHeartbeats 1000000 in
theorem newDone_any (a : Option Addr) (len cap : Nat) (zs : List Int) (w : World) (hs : Seg w a len zs) (hcap : len ≤ cap) (hl : len ≤ 2097152) :
    Calls Try.prog 8 #[.slice a len cap] w fun e w' => CN zs w e w' := by
  have hcn := cur_new w a len cap true zs (Obj.cells #[Value.bool false] 4) hs hcap
  have HC : Hid (_) := hcn
  have HL : Hid (zs.length ≤ 2097152) := by have := hs.1; show _ ≤ _; omega
  clear hcn hs
  go_enter Try.func8, Try.ntmps8
  go_wp2_with (go_at_call 17; go_in)
  refine (done19 w.heap.size w.heap.size (w.heap.size + 1) true zs _ HC.out (Nat.le_refl _) (by omega) (by omega) (by go_simp) (by go_simp) HL.out).mono ?_
  rintro e w1 ⟨rfl, ⟨a1, cap1, hc0, hcap1, hseg, hc1, hfz⟩, hk, hkf, hbel⟩
  cases hok : (zs.all blk) with
  | true =>
    rw [hok] at hk
    simp only [Bool.and_self, if_true] at hk
    have HK : Hid (zs.all blk = true) := hok
    clear hok HC
    go_wp2
    go_quiet (fail)
    go_wp2
    exact bodyPost_ret (v := .tuple #[.bool true, .bool true, .slice a1 (zs.dropWhile blk).length cap1, .bool true]) (by simp [results, Try.results8, go_sem]) rfl ⟨a1, cap1, by rw [HK.out], seg_end hbel hseg _, cd_below hbel _⟩
  | false =>
    rw [hok] at hk
    simp only [Bool.and_false, Bool.false_eq_true, if_false] at hk
    have HK : Hid (zs.all blk = false) := hok
    clear hok HC
    go_wp2
    go_quiet (fail)
    go_wp2
    exact bodyPost_ret (v := .tuple #[.bool false, .bool false, .slice a1 (zs.dropWhile blk).length cap1, .bool true]) (by simp [results, Try.results8, go_sem]) rfl ⟨a1, cap1, by rw [HK.out], seg_end hbel hseg _, cd_below hbel _⟩

end Go.Proofs.Qxb6615047a
