import Derived.Test.Qxb6615047aTwice
namespace Go.Proofs.Qxb6615047a
open Go.RowKit
set_option linter.unusedVariables false

def GoodC (w : World) (e : Ending) (w' : World) : Prop := e = .returned (.bool true) ∧ Below w.heap.size w w'

theorem allBlank_isC (a : Option Addr) (len cap : Nat) (zs : List Int) (v : Bool) (w : World) (hs : Seg w a len zs) (hl : len ≤ 2097152) (hv : zs.all blk = v) :
    Calls Try.prog 9 #[.slice a len cap] w fun e w' => e = .returned (.bool v) ∧ w' = w := by
  subst hv
  exact allBlank_any a len cap zs w hs hl

set_option maxHeartbeats 1000000 in
theorem lawC_core (a0 : Option Addr) (len0 cap0 : Nat) (ok : Bool) (zs : List Int) (w : World) (hs0 : Seg w a0 len0 zs) (hn0 : a0 = none → len0 = 0) (hm0 : len0 ≤ 9223372036854775807) :
    Calls Try.prog 5 #[.slice a0 len0 cap0, .bool ok] w fun e w' => GoodC w e w' := by
  by_cases hsz : len0 ≤ 1048576
  · have hA : ¬ (1048576 : Int) < (len0 : Int) := by omega
    have HL : Hid (zs.length = len0) := hs0.1
    obtain ⟨ps, rs, HR, HZ⟩ : ∃ ps rs, Hid (zs.dropWhile blk = rs) ∧ Hid (zs = ps ++ rs) := ⟨zs.takeWhile blk, _, rfl, (List.takeWhile_append_dropWhile (p := blk) (l := zs)).symm⟩
    have hrl : rs.length ≤ len0 := by rw [← HR.out, ← HL.out]; exact drop_len zs
    go_enter Try.func5, Try.ntmps5
    go_wp2_with fail
    refine (zzC_any _ _ _ _ _ hm0).mono ?_
    rintro e w' ⟨rfl, rfl⟩
    simp only [hsz, decide_true]
    go_wp2_with fail
    refine (clone_any _ _ _ zs _ hs0 hn0 (by omega)).mono ?_
    rintro e w2 ⟨a2, cap2, rfl, hn2, hcap2, hs2, hb2⟩
    clear hs0 hn0
    cases hv : (ok && zs.all blk) with
    | true =>
      have HV : Hid ((ok && zs.all blk) = true) := hv
      clear hv
      go_wp2_with fail
      refine (twice_any _ _ _ ok true zs _ hs2 hcap2 (by omega) HV.out).mono ?_
      rintro e w3 ⟨a3, c3, a4, c4, rfl, hs3, hs4, hb3⟩
      have hs2' := hs2.below hb3
      clear hs2
      have hbw := hb2.trans (hb3.mono hb2.size)
      clear hb2 hb3
      rw [HR.out] at hs3 hs4
      rw [HR.out]
      have HZA : Hid (zs.all blk = true) := (Bool.and_eq_true _ _ ▸ HV.out).2
      obtain rfl : ok = true := (Bool.and_eq_true _ _ ▸ HV.out).1
      clear HV
      go_wp2_with fail
      refine (allBlank_isC _ _ _ zs true _ hs2' (by omega) HZA.out).mono ?_
      rintro e w' ⟨rfl, rfl⟩
      go_wp2_with fail
      refine (same_any _ _ _ rs _ _ _ hs3 hs4 (by omega)).mono ?_
      rintro e w4 ⟨rfl, n4, rfl⟩
      go_wp2_with fail
      refine (suffix_any _ _ _ rs _ _ _ ps _ (hs3.below (below_drewN (Below.refl _ _) n4)) (by rw [← HZ.out]; exact hs2'.below (below_drewN (Below.refl _ _) n4)) (by omega)).mono ?_
      rintro e w5 ⟨rfl, n5, rfl⟩
      go_wp2
      go_ret
      exact ⟨rfl, below_drewN hbw _⟩
    | false =>
      have HV : Hid ((ok && zs.all blk) = false) := hv
      clear hv
      go_wp2_with fail
      refine (twice_any _ _ _ ok false zs _ hs2 hcap2 (by omega) HV.out).mono ?_
      rintro e w3 ⟨a3, c3, a4, c4, rfl, hs3, hs4, hb3⟩
      have hs2' := hs2.below hb3
      clear hs2
      have hbw := hb2.trans (hb3.mono hb2.size)
      clear hb2 hb3
      rw [HR.out] at hs3 hs4
      rw [HR.out]
      cases ok with
      | false =>
        go_wp2_with fail
        refine (same_any _ _ _ rs _ _ _ hs3 hs4 (by omega)).mono ?_
        rintro e w4 ⟨rfl, n4, rfl⟩
        go_wp2_with fail
        refine (suffix_any _ _ _ rs _ _ _ ps _ (hs3.below (below_drewN (Below.refl _ _) n4)) (by rw [← HZ.out]; exact hs2'.below (below_drewN (Below.refl _ _) n4)) (by omega)).mono ?_
        rintro e w5 ⟨rfl, n5, rfl⟩
        go_wp2
        go_ret
        exact ⟨rfl, below_drewN hbw _⟩
      | true =>
        have HZA : Hid (zs.all blk = false) := (Bool.true_and _).symm.trans HV.out
        clear HV
        go_wp2_with fail
        refine (allBlank_isC _ _ _ zs false _ hs2' (by omega) HZA.out).mono ?_
        rintro e w' ⟨rfl, rfl⟩
        go_wp2_with fail
        refine (same_any _ _ _ rs _ _ _ hs3 hs4 (by omega)).mono ?_
        rintro e w4 ⟨rfl, n4, rfl⟩
        go_wp2_with fail
        refine (suffix_any _ _ _ rs _ _ _ ps _ (hs3.below (below_drewN (Below.refl _ _) n4)) (by rw [← HZ.out]; exact hs2'.below (below_drewN (Below.refl _ _) n4)) (by omega)).mono ?_
        rintro e w5 ⟨rfl, n5, rfl⟩
        go_wp2
        go_ret
        exact ⟨rfl, below_drewN hbw _⟩
  · go_enter Try.func5, Try.ntmps5
    go_wp2_with fail
    refine (zzC_any _ _ _ _ _ hm0).mono ?_
    rintro e w' ⟨rfl, rfl⟩
    simp only [hsz, decide_false]
    go_wp2
    go_ret
    exact ⟨rfl, Below.refl _ _⟩

end Go.Proofs.Qxb6615047a
