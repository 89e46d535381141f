import Derived.Test.Qxb6615475aState
namespace Go.Proofs.Qxb6615475a
open Go.RowKit
set_option linter.unusedVariables false

def Good (w : World) (e : Ending) (w' : World) : Prop := e = .returned (.bool true) ∧ Below w.heap.size w w'
theorem Qgood (w : World) : Good w (.returned (.bool true)) w := ⟨rfl, Below.refl _ _⟩

/-- a reader, freshly laid -/
theorem rdr_new (w : World) (a : Option Addr) (len cap : Nat) (off en : Int) (sec bnd : ByteArray) :
    Rdr w.heap.size a len cap off en sec bnd .nilIface (w.alloc (.cells #[.slice a len cap, .int .i64 off, .int .i64 en, .string sec, .string bnd, .nilIface] 34)) := by
  constructor
  · go_simp
  · go_simp
  · go_simp
  · go_simp
  · go_simp
  · go_simp
  · go_simp
  · go_simp

theorem beq_toList_self (s : ByteArray) : (s.toList == s.toList) = true := by simp

set_option maxRecDepth 100000 in
set_option maxHeartbeats 2000000 in
theorem lawS_any (a : Option Addr) (len cap : Nat) (zs : List Int) (off en : Int) (sec bnd : ByteArray) (n1 n2 : Int) (w : World) (hs : Seg w a len zs) (hn : a = none → len = 0) (hm : len ≤ 9223372036854775807) (hms : sec.size ≤ 9223372036854775807) (hmb : bnd.size ≤ 9223372036854775807) :
    Calls Try.prog 4 #[.slice a len cap, .int .i64 off, .int .i64 en, .string sec, .string bnd, .int .i64 n1, .int .i64 n2] w fun e w' => Good w e w' := by
  have q22 : ∀ (w : World) (a : Option Addr) (n c n' c' : Nat), (binOp .eql 22 (.slice a n c) (.slice none n' c')).run Try.prog w = .ok (.bool a.isNone) w := fun w a n c n' c' => Lib.run_eql_slice_nil w _ _ a n c n' c' Try.underlying22
  by_cases hsz : len + sec.size + bnd.size ≤ 1048576
  · have hzz : decide (len + sec.size + bnd.size ≤ 1048576) = true := by simpa using hsz
    have hA1 : ¬ (1048576 : Int) < (len : Int) := by omega
    have hA2 : ¬ (1048576 : Int) < (sec.size : Int) := by omega
    have hA3 : ¬ (1048576 : Int) < (bnd.size : Int) := by omega
    by_cases h1 : off < 0
    · clear hs
      go_enter Try.func4, Try.ntmps4
      go_wp2_with fail
      refine (zzB_any _ _ _ _ _ _ _ _ _ _ hm hms hmb).mono ?_
      rintro e w' ⟨rfl, rfl⟩
      rw [hzz]
      go_wp2
      go_ret
      exact Qgood _
    · by_cases h2 : en < off
      · clear hs
        go_enter Try.func4, Try.ntmps4
        go_wp2_with fail
        refine (zzB_any _ _ _ _ _ _ _ _ _ _ hm hms hmb).mono ?_
        rintro e w' ⟨rfl, rfl⟩
        rw [hzz]
        go_wp2
        go_ret
        exact Qgood _
      · by_cases h3 : (len : Int) < en
        · clear hs
          go_enter Try.func4, Try.ntmps4
          go_wp2_with fail
          refine (zzB_any _ _ _ _ _ _ _ _ _ _ hm hms hmb).mono ?_
          rintro e w' ⟨rfl, rfl⟩
          rw [hzz]
          go_wp2
          go_ret
          exact Qgood _
        · by_cases h4 : n1 ≤ en - off
          · clear hs
            go_enter Try.func4, Try.ntmps4
            go_wp2_with fail
            refine (zzB_any _ _ _ _ _ _ _ _ _ _ hm hms hmb).mono ?_
            rintro e w' ⟨rfl, rfl⟩
            rw [hzz]
            go_wp2
            go_ret
            exact Qgood _
          · by_cases h5 : 9223372036854775807 - off < n1
            · clear hs
              go_enter Try.func4, Try.ntmps4
              go_wp2_with fail
              refine (zzB_any _ _ _ _ _ _ _ _ _ _ hm hms hmb).mono ?_
              rintro e w' ⟨rfl, rfl⟩
              rw [hzz]
              go_wp2
              go_ret
              exact Qgood _
            · go_enter Try.func4, Try.ntmps4
              go_wp2_with fail
              refine (zzB_any _ _ _ _ _ _ _ _ _ _ hm hms hmb).mono ?_
              rintro e w' ⟨rfl, rfl⟩
              rw [hzz]
              go_wp2_with fail
              refine (clone_any _ _ _ zs _ hs hn (by omega)).mono ?_
              rintro e w2 ⟨a2, cap2, rfl, hn2, hcap2, hs2, hb2⟩
              clear hs hn
              go_wp2_with (go_at_call 6; go_in)
              refine (rb_fail _ a2 len cap2 off en sec bnd _ (rdr_new _ _ _ _ _ _ _ _) n1 (by omega) (by omega) (by omega) (by omega) (by omega) (by omega) (by omega)).mono ?_
              rintro e w3 ⟨rfl, why, hwhy, fb, hR, hRec, hB3, hfb⟩
              have hbw : Below w'.heap.size w' w3 := (hb2.alloc hb2.size _).trans (hB3.mono hb2.size)
              clear hB3 hb2
              have HR : Hid (_) := hR
              have HRec : Hid (_) := hRec
              clear hR hRec hs2
              go_wp2_with fail
              refine (state_err _ fb a2 len cap2 off en sec bnd why off _ HR.out HRec.out).mono ?_
              rintro e w4 ⟨rfl, rfl⟩
              go_wp2_with fail
              refine (rb_stuck _ a2 len cap2 off en sec bnd _ _ HR.out n2).mono ?_
              rintro e w4 ⟨rfl, rfl⟩
              go_wp2_with fail
              refine (state_err _ fb a2 len cap2 off en sec bnd why off _ HR.out HRec.out).mono ?_
              rintro e w4 ⟨rfl, rfl⟩
              go_wp2
              go_ret
              exact ⟨rfl, hbw⟩
  · have hzz : decide (len + sec.size + bnd.size ≤ 1048576) = false := by simpa using hsz
    clear hs
    go_enter Try.func4, Try.ntmps4
    go_wp2_with fail
    refine (zzB_any _ _ _ _ _ _ _ _ _ _ hm hms hmb).mono ?_
    rintro e w' ⟨rfl, rfl⟩
    rw [hzz]
    go_wp2
    go_ret
    exact Qgood _

end Go.Proofs.Qxb6615475a
