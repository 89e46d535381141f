import Derived.Test.Qxb6615047aDoneB
import Derived.Test.Qxb6615047aSuffix
namespace Go.Proofs.Qxb6615047a
open Go.RowKit
set_option linter.unusedVariables false

/-- both answers, the count, both rests -/
def CT (zs : List Int) (ok v : Bool) (w : World) (e : Ending) (w' : World) : Prop :=
  ∃ a1 c1 a2 c2, e = .returned (.tuple #[.bool v, .bool v, .int .i64 (if v then 2 else 0), .slice a1 (zs.dropWhile blk).length c1, .slice a2 (zs.dropWhile blk).length c2]) ∧
    Seg w' a1 (zs.dropWhile blk).length (zs.dropWhile blk) ∧ Seg w' a2 (zs.dropWhile blk).length (zs.dropWhile blk) ∧ Below w.heap.size w w'

theorem drop_drop (zs : List Int) : (zs.dropWhile blk).dropWhile blk = zs.dropWhile blk := by
  induction zs with
  | nil => rfl
  | cons d u ih =>
    by_cases hd : blk d = true
    · rw [List.dropWhile_cons_of_pos hd]; exact ih
    · rw [List.dropWhile_cons_of_neg hd, List.dropWhile_cons_of_neg hd]

theorem drop_all (zs : List Int) : (zs.dropWhile blk).all blk = zs.all blk := by
  induction zs with
  | nil => rfl
  | cons d u ih =>
    by_cases hd : blk d = true
    · rw [List.dropWhile_cons_of_pos hd, ih]; simp [hd]
    · rw [List.dropWhile_cons_of_neg hd]

theorem drop_len (zs : List Int) : (zs.dropWhile blk).length ≤ zs.length := by
  induction zs with
  | nil => exact Nat.le_refl _
  | cons d u ih =>
    by_cases hd : blk d = true
    · rw [List.dropWhile_cons_of_pos hd, List.length_cons]; omega
    · rw [List.dropWhile_cons_of_neg hd]; exact Nat.le_refl _

set_option maxHeartbeats 1000000 in
theorem twice_any (a : Option Addr) (len cap : Nat) (ok v : Bool) (zs : List Int) (w : World) (hs : Seg w a len zs) (hcap : len ≤ cap) (hl : len ≤ 2097152) (hv : (ok && zs.all blk) = v) :
    Calls Try.prog 15 #[.slice a len cap, .bool ok] w fun e w' => CT zs ok v w e w' := by
  have hcn := cur_new w a len cap ok zs (Obj.cells #[Value.int IntKind.i64 0] 3) hs hcap
  have HC : Hid (_) := hcn
  have HL : Hid (zs.length ≤ 2097152) := by have := hs.1; show _ ≤ _; omega
  have HV : Hid ((ok && zs.all blk) = v) := hv
  have HV2 : Hid ((ok && (zs.dropWhile blk).all blk) = v) := by rw [drop_all]; exact hv
  have HD : Hid ((zs.dropWhile blk).dropWhile blk = zs.dropWhile blk) := drop_drop zs
  have HL2 : Hid ((zs.dropWhile blk).length ≤ 2097152) := Nat.le_trans (drop_len zs) HL.out
  clear hcn hs hv
  generalize hrs : zs.dropWhile blk = rs at *
  have HRS : Hid (zs.dropWhile blk = rs) := hrs
  go_enter Try.func15, Try.ntmps15
  go_wp2_with (go_at_call 17; go_in)
  refine (done21 w.heap.size w.heap.size (w.heap.size + 1) ok 0 zs _ HC.out (Nat.le_refl _) (by omega) (by omega) (by go_simp) (by go_simp) (by omega) (by omega) HL.out).mono ?_
  rintro e w1 ⟨rfl, hcur1, hk, hkf, hbel⟩
  rw [HV.out] at hk
  rw [HV.out]
  rw [hrs] at hcur1
  clear hrs
  have HC1 : Hid (_) := hcur1
  obtain ⟨a1, cap1, hc0, hcap1, hseg, hc1, hfz⟩ := hcur1
  cases v with
  | true =>
    simp only [if_true] at hk
    have hk' : w1.cell? ⟨w.heap.size + 1, 0, none⟩ = some (.int .i64 1) := hk
    clear hk HC
    go_wp2_with fail
    refine (done22 w.heap.size w.heap.size (w.heap.size + 1) ok 1 rs _ HC1.out (Nat.le_refl _) (by omega) (by omega) hk' hkf (by omega) (by omega) HL2.out).mono ?_
    rintro e w2 ⟨rfl, hcur2, hk2, hkf2, hbel2⟩
    rw [HV2.out] at hk2
    rw [HV2.out]
    rw [HD.out] at hcur2
    simp only [if_true] at hk2
    have hk2' : w2.cell? ⟨w.heap.size + 1, 0, none⟩ = some (.int .i64 2) := hk2
    have hsg1 := hseg.below hbel2
    obtain ⟨a2, cap2, hc02, hcap2, hseg2, hc12, hfz2⟩ := hcur2
    clear hk2 hk' hc0 hc1 hfz hkf hseg
    have hb := hbel.trans hbel2
    clear hbel hbel2
    go_wp2
    go_quiet (fail)
    go_wp2
    refine bodyPost_ret (v := .tuple #[.bool true, .bool true, .int .i64 2, .slice a1 rs.length cap1, .slice a2 rs.length cap2]) (by simp [results, Try.results15, go_sem]) rfl ?_
    exact ⟨a1, cap1, a2, cap2, by rw [HRS.out]; rfl, by rw [HRS.out]; exact seg_end hb hsg1 _, by rw [HRS.out]; exact seg_end hb hseg2 _, cd_below hb _⟩
  | false =>
    simp only [Bool.false_eq_true, if_false] at hk
    clear HC
    go_wp2_with fail
    refine (done22 w.heap.size w.heap.size (w.heap.size + 1) ok 0 rs _ HC1.out (Nat.le_refl _) (by omega) (by omega) hk hkf (by omega) (by omega) HL2.out).mono ?_
    rintro e w2 ⟨rfl, hcur2, hk2, hkf2, hbel2⟩
    rw [HV2.out] at hk2
    rw [HV2.out]
    rw [HD.out] at hcur2
    simp only [Bool.false_eq_true, if_false] at hk2
    have hsg1 := hseg.below hbel2
    obtain ⟨a2, cap2, hc02, hcap2, hseg2, hc12, hfz2⟩ := hcur2
    clear hk hc0 hc1 hfz hkf hseg
    have hb := hbel.trans hbel2
    clear hbel hbel2
    go_wp2
    go_quiet (fail)
    go_wp2
    refine bodyPost_ret (v := .tuple #[.bool false, .bool false, .int .i64 0, .slice a1 rs.length cap1, .slice a2 rs.length cap2]) (by simp [results, Try.results15, go_sem]) rfl ?_
    exact ⟨a1, cap1, a2, cap2, by rw [HRS.out]; rfl, by rw [HRS.out]; exact seg_end hb hsg1 _, by rw [HRS.out]; exact seg_end hb hseg2 _, cd_below hb _⟩

end Go.Proofs.Qxb6615047a
