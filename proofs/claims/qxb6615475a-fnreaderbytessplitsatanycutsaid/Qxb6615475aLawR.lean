import Derived.Test.Qxb6615475aLawQ
namespace Go.Proofs.Qxb6615475a
open Go.RowKit
set_option linter.unusedVariables false

set_option maxRecDepth 100000 in
set_option maxHeartbeats 2000000 in
theorem lawP_any (a : Option Addr) (len cap : Nat) (zs : List Int) (off en : Int) (sec bnd : ByteArray) (n1 n2 : Int) (w : World) (hs : Seg w a len zs) (hn : a = none → len = 0) (hlc : len ≤ cap) (hm : len ≤ 9223372036854775807) (hms : sec.size ≤ 9223372036854775807) (hmb : bnd.size ≤ 9223372036854775807) :
    Calls Try.prog 3 #[.slice a len cap, .int .i64 off, .int .i64 en, .string sec, .string bnd, .int .i64 n1, .int .i64 n2] w fun e w' => Good w e w' := by
  by_cases hsz : len + sec.size + bnd.size ≤ 1048576
  · have hzz : decide (len + sec.size + bnd.size ≤ 1048576) = true := by simpa using hsz
    have hA1 : ¬ (1048576 : Int) < (len : Int) := by omega
    have hA2 : ¬ (1048576 : Int) < (sec.size : Int) := by omega
    have hA3 : ¬ (1048576 : Int) < (bnd.size : Int) := by omega
    by_cases h1 : off < 0
    · clear hs
      go_enter Try.func3, Try.ntmps3
      go_wp2_with fail
      refine (zzA_any _ _ _ _ _ _ _ _ _ _ hm hms hmb).mono ?_
      rintro e w' ⟨rfl, rfl⟩
      rw [hzz]
      go_wp2
      go_ret
      exact Qgood _
    · by_cases h2 : en < off
      · clear hs
        go_enter Try.func3, Try.ntmps3
        go_wp2_with fail
        refine (zzA_any _ _ _ _ _ _ _ _ _ _ hm hms hmb).mono ?_
        rintro e w' ⟨rfl, rfl⟩
        rw [hzz]
        go_wp2
        go_ret
        exact Qgood _
      · by_cases h3 : (len : Int) < en
        · clear hs
          go_enter Try.func3, Try.ntmps3
          go_wp2_with fail
          refine (zzA_any _ _ _ _ _ _ _ _ _ _ hm hms hmb).mono ?_
          rintro e w' ⟨rfl, rfl⟩
          rw [hzz]
          go_wp2
          go_ret
          exact Qgood _
        · by_cases h4 : n1 < 0
          · clear hs
            go_enter Try.func3, Try.ntmps3
            go_wp2_with fail
            refine (zzA_any _ _ _ _ _ _ _ _ _ _ hm hms hmb).mono ?_
            rintro e w' ⟨rfl, rfl⟩
            rw [hzz]
            go_wp2
            go_ret
            exact Qgood _
          · by_cases h5 : n2 < 0
            · clear hs
              go_enter Try.func3, Try.ntmps3
              go_wp2_with fail
              refine (zzA_any _ _ _ _ _ _ _ _ _ _ hm hms hmb).mono ?_
              rintro e w' ⟨rfl, rfl⟩
              rw [hzz]
              go_wp2
              go_ret
              exact Qgood _
            · by_cases h6 : 9223372036854775807 - off < n1
              · clear hs
                go_enter Try.func3, Try.ntmps3
                go_wp2_with fail
                refine (zzA_any _ _ _ _ _ _ _ _ _ _ hm hms hmb).mono ?_
                rintro e w' ⟨rfl, rfl⟩
                rw [hzz]
                go_wp2
                go_ret
                exact Qgood _
              · by_cases h7 : 9223372036854775807 - off - n1 < n2
                · clear hs
                  go_enter Try.func3, Try.ntmps3
                  go_wp2_with fail
                  refine (zzA_any _ _ _ _ _ _ _ _ _ _ hm hms hmb).mono ?_
                  rintro e w' ⟨rfl, rfl⟩
                  rw [hzz]
                  go_wp2
                  go_ret
                  exact Qgood _
                · obtain ⟨p, rfl⟩ := Int.eq_ofNat_of_zero_le (show 0 ≤ off by omega)
                  obtain ⟨k1, rfl⟩ := Int.eq_ofNat_of_zero_le (show 0 ≤ n1 by omega)
                  obtain ⟨k2, rfl⟩ := Int.eq_ofNat_of_zero_le (show 0 ≤ n2 by omega)
                  by_cases hI : (k1 : Int) + (k2 : Int) ≤ en - (p : Int)
                  · exact lawP_I a len cap p k1 k2 zs en sec bnd w hs hn hlc hsz (by omega) (by omega) hI
                  · by_cases hJ : (k1 : Int) ≤ en - (p : Int)
                    · exact lawP_II a len cap p k1 k2 zs en sec bnd w hs hn hlc hsz (by omega) (by omega) (by omega) hJ (by omega)
                    · exact lawP_III a len cap p k1 k2 zs en sec bnd w hs hn hlc hsz (by omega) (by omega) (by omega) (by omega)
  · have hzz : decide (len + sec.size + bnd.size ≤ 1048576) = false := by simpa using hsz
    clear hs
    go_enter Try.func3, Try.ntmps3
    go_wp2_with fail
    refine (zzA_any _ _ _ _ _ _ _ _ _ _ hm hms hmb).mono ?_
    rintro e w' ⟨rfl, rfl⟩
    rw [hzz]
    go_wp2
    go_ret
    exact Qgood _

end Go.Proofs.Qxb6615475a
