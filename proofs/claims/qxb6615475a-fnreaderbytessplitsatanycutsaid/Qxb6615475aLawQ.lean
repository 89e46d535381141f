import Derived.Test.Qxb6615475aLawP
namespace Go.Proofs.Qxb6615475a
open Go.RowKit
set_option linter.unusedVariables false

set_option maxRecDepth 100000 in
set_option maxHeartbeats 4000000 in
theorem lawP_II (a : Option Addr) (len cap p k1 k2 : Nat) (zs : List Int) (en : Int) (sec bnd : ByteArray) (w : World) (hs : Seg w a len zs) (hn : a = none → len = 0) (hlc : len ≤ cap) (hsz : len + sec.size + bnd.size ≤ 1048576)
    (h2 : (p : Int) ≤ en) (h3 : en ≤ len) (hI : en - (p : Int) < (k1 : Int) + (k2 : Int)) (hJ : (k1 : Int) ≤ en - (p : Int)) (hmx : (p : Int) + (k1 : Int) + (k2 : Int) ≤ 9223372036854775807) :
    Calls Try.prog 3 #[.slice a len cap, .int .i64 p, .int .i64 en, .string sec, .string bnd, .int .i64 k1, .int .i64 k2] w fun e w' => Good w e w' := by
  have hzz : decide (len + sec.size + bnd.size ≤ 1048576) = true := by simpa using hsz
  have hA1 : ¬ (1048576 : Int) < (len : Int) := by omega
  have hA2 : ¬ (1048576 : Int) < (sec.size : Int) := by omega
  have hA3 : ¬ (1048576 : Int) < (bnd.size : Int) := by omega
  have q22 : ∀ (w : World) (a : Option Addr) (n c n' c' : Nat), (binOp .eql 22 (.slice a n c) (.slice none n' c')).run Try.prog w = .ok (.bool a.isNone) w := fun w a n c n' c' => Lib.run_eql_slice_nil w _ _ a n c n' c' Try.underlying22
  have q22n : ∀ (w : World) (a : Option Addr) (n c n' c' : Nat), (binOp .neq 22 (.slice a n c) (.slice none n' c')).run Try.prog w = .ok (.bool (!a.isNone)) w := fun w a n c n' c' => run_neq_slice_nil_any w _ _ a n c n' c' Try.underlying22
  go_enter Try.func3, Try.ntmps3
  go_wp2_with fail
  refine (zzA_any _ _ _ _ _ _ _ _ _ _ (by omega) (by omega) (by omega)).mono ?_
  rintro e w' ⟨rfl, rfl⟩
  rw [hzz]
  go_wp2_with fail
  refine (clone_any _ _ _ zs _ hs hn (by omega)).mono ?_
  rintro e w2 ⟨a2, cap2, rfl, hn2, hcap2, hs2, hb2⟩
  go_wp2_with (go_at_call 6; go_in)
  refine (rb_okA _ a2 len cap2 p k1 en sec bnd _ (rdr_new _ _ _ _ _ _ _ _) (by omega) h3 hcap2 (by omega)).mono ?_
  rintro e w3 ⟨a3, c3, rfl, ha3, hR3, hB3⟩
  have hb3 : Below w2.heap.size w2 w3 := ((Below.refl _ _).alloc (Nat.le_refl _) _).trans hB3
  have HR3 : Hid (Rdr w2.heap.size a2 len cap2 ((p : Int) + (k1 : Int)) en sec bnd .nilIface w3) := hR3
  clear hR3 hB3
  go_wp2_with fail
  refine (rb_fail _ a2 len cap2 ((p : Int) + (k1 : Int)) en sec bnd _ HR3.out k2 (by omega) (by omega) h3 (by omega) (by omega) (by omega) (by omega)).mono ?_
  rintro e w4 ⟨rfl, why4, hwhy4, fb4, hR4, hRec4, hB4, hfb4⟩
  have hb4 : Below w2.heap.size w2 w4 := hb3.trans hB4
  have hbw4 : Below w'.heap.size w' w4 := hb2.trans (hb4.mono hb2.size)
  have hs4 := hs2.below hb4
  have hs0 := hs.below hbw4
  have hsz4 : w2.heap.size < w4.heap.size := hR4.lt
  have HR4 : Hid (Rdr w2.heap.size a2 len cap2 ((p : Int) + (k1 : Int)) en sec bnd (.iface 36 (.pointer (some ⟨fb4, 0, none⟩))) w4) := hR4
  have HRec4 : Hid (Rec fb4 sec ((p : Int) + (k1 : Int)) why4 w4) := hRec4
  clear hR4 hRec4 HR3 hb3 hB4 hs2 hs
  go_wp2_with fail
  refine (clone_any _ _ _ zs _ hs0 hn (by omega)).mono ?_
  rintro e w5 ⟨a5, cap5, rfl, hn5, hcap5, hs5, hb5⟩
  go_wp2_with (go_at_call 6; go_in)
  refine (rb_fail _ a5 len cap5 (p : Int) en sec bnd _ (rdr_new _ _ _ _ _ _ _ _) _ (by omega) (by omega) h3 (by omega) (by omega) (by omega) (by omega)).mono ?_
  rintro e w6 ⟨rfl, why6, hwhy6, fb6, hR6, hRec6, hB6, hfb6⟩
  have hb6 : Below w5.heap.size w5 w6 := ((Below.refl _ _).alloc (Nat.le_refl _) _).trans hB6
  have hb46 : Below w4.heap.size w4 w6 := hb5.trans (hb6.mono hb5.size)
  have hbw6 : Below w'.heap.size w' w6 := hbw4.trans (hb46.mono hbw4.size)
  have HR46 : Hid (Rdr w2.heap.size a2 len cap2 ((p : Int) + (k1 : Int)) en sec bnd (.iface 36 (.pointer (some ⟨fb4, 0, none⟩))) w6) := Rdr.below HR4.out hb46 hsz4
  have HRec46 : Hid (Rec fb4 sec ((p : Int) + (k1 : Int)) why4 w6) := Rec.below HRec4.out hb46 hfb4
  have HR6 : Hid (Rdr w5.heap.size a5 len cap5 (p : Int) en sec bnd (.iface 36 (.pointer (some ⟨fb6, 0, none⟩))) w6) := hR6
  have HRec6 : Hid (Rec fb6 sec (p : Int) why6 w6) := hRec6
  have HHA : Hid (Seg w6 a3 k1 ((zs.drop p).take k1)) := seg_cut (k := k1) (hs4.below hb46) (by omega) ha3
  have HS6 : Hid (Seg w6 a len zs) := hs0.below hb46
  clear hs0 hs4 hs5 hb5 hb6 hB6 hb46 hbw4 hb4 hb2 HR4 HRec4 ha3 hR6 hRec6 hn hn2 hn5
  go_wp2_with fail
  refine (state_err _ fb4 _ _ _ _ _ _ _ _ _ _ HR46.out HRec46.out).mono ?_
  rintro e w7 ⟨rfl, rfl⟩
  go_wp2_with fail
  refine (state_err _ fb6 _ _ _ _ _ _ _ _ _ _ HR6.out HRec6.out).mono ?_
  rintro e w7 ⟨rfl, rfl⟩
  clear HR46 HR6 HRec46 HRec6
  by_cases hc1 : cap = p
  · have hc1' : p = cap := hc1.symm
    clear hc1
    subst hc1'
    have hk1 : k1 ≤ 0 := by omega
    go_wp2_with fail
    refine (eq_cut _ _ _ _ ((zs.drop p).take k1) _ _ _ HHA.out (seg_zero HS6.out (by omega) (by omega)) (by omega) (by omega)).mono ?_
    rintro e w8 ⟨rfl, m8, rfl⟩
    go_wp2
    go_ret
    exact ⟨rfl, below_drewN hbw6 _⟩
  · go_wp2_with fail
    refine (eq_cut _ _ _ _ ((zs.drop p).take k1) _ _ _ HHA.out (seg_cut HS6.out (by omega) (fun _ => rfl)) (by omega) (by omega)).mono ?_
    rintro e w8 ⟨rfl, m8, rfl⟩
    go_wp2
    go_ret
    exact ⟨rfl, below_drewN hbw6 _⟩

set_option maxRecDepth 100000 in
set_option maxHeartbeats 4000000 in
theorem lawP_III (a : Option Addr) (len cap p k1 k2 : Nat) (zs : List Int) (en : Int) (sec bnd : ByteArray) (w : World) (hs : Seg w a len zs) (hn : a = none → len = 0) (hlc : len ≤ cap) (hsz : len + sec.size + bnd.size ≤ 1048576)
    (h2 : (p : Int) ≤ en) (h3 : en ≤ len) (hJ : en - (p : Int) < (k1 : Int)) (hmx : (p : Int) + (k1 : Int) + (k2 : Int) ≤ 9223372036854775807) :
    Calls Try.prog 3 #[.slice a len cap, .int .i64 p, .int .i64 en, .string sec, .string bnd, .int .i64 k1, .int .i64 k2] w fun e w' => Good w e w' := by
  have hzz : decide (len + sec.size + bnd.size ≤ 1048576) = true := by simpa using hsz
  have hA1 : ¬ (1048576 : Int) < (len : Int) := by omega
  have hA2 : ¬ (1048576 : Int) < (sec.size : Int) := by omega
  have hA3 : ¬ (1048576 : Int) < (bnd.size : Int) := by omega
  have q22 : ∀ (w : World) (a : Option Addr) (n c n' c' : Nat), (binOp .eql 22 (.slice a n c) (.slice none n' c')).run Try.prog w = .ok (.bool a.isNone) w := fun w a n c n' c' => Lib.run_eql_slice_nil w _ _ a n c n' c' Try.underlying22
  have q22n : ∀ (w : World) (a : Option Addr) (n c n' c' : Nat), (binOp .neq 22 (.slice a n c) (.slice none n' c')).run Try.prog w = .ok (.bool (!a.isNone)) w := fun w a n c n' c' => run_neq_slice_nil_any w _ _ a n c n' c' Try.underlying22
  go_enter Try.func3, Try.ntmps3
  go_wp2_with fail
  refine (zzA_any _ _ _ _ _ _ _ _ _ _ (by omega) (by omega) (by omega)).mono ?_
  rintro e w' ⟨rfl, rfl⟩
  rw [hzz]
  go_wp2_with fail
  refine (clone_any _ _ _ zs _ hs hn (by omega)).mono ?_
  rintro e w2 ⟨a2, cap2, rfl, hn2, hcap2, hs2, hb2⟩
  go_wp2_with (go_at_call 6; go_in)
  refine (rb_fail _ a2 len cap2 (p : Int) en sec bnd _ (rdr_new _ _ _ _ _ _ _ _) k1 (by omega) (by omega) h3 (by omega) (by omega) (by omega) (by omega)).mono ?_
  rintro e w4 ⟨rfl, why4, hwhy4, fb4, hR4, hRec4, hB4, hfb4⟩
  have hb4 : Below w2.heap.size w2 w4 := ((Below.refl _ _).alloc (Nat.le_refl _) _).trans hB4
  have hbw4 : Below w'.heap.size w' w4 := hb2.trans (hb4.mono hb2.size)
  have hs0 := hs.below hbw4
  have hsz4 : w2.heap.size < w4.heap.size := hR4.lt
  have HR4 : Hid (Rdr w2.heap.size a2 len cap2 (p : Int) en sec bnd (.iface 36 (.pointer (some ⟨fb4, 0, none⟩))) w4) := hR4
  have HRec4 : Hid (Rec fb4 sec (p : Int) why4 w4) := hRec4
  clear hR4 hRec4 hB4 hs2 hs
  go_wp2_with fail
  refine (rb_stuck _ a2 len cap2 (p : Int) en sec bnd _ _ HR4.out k2).mono ?_
  rintro e w4' ⟨rfl, rfl⟩
  go_wp2_with fail
  refine (clone_any _ _ _ zs _ hs0 hn (by omega)).mono ?_
  rintro e w5 ⟨a5, cap5, rfl, hn5, hcap5, hs5, hb5⟩
  go_wp2_with (go_at_call 6; go_in)
  refine (rb_fail _ a5 len cap5 (p : Int) en sec bnd _ (rdr_new _ _ _ _ _ _ _ _) _ (by omega) (by omega) h3 (by omega) (by omega) (by omega) (by omega)).mono ?_
  rintro e w6 ⟨rfl, why6, hwhy6, fb6, hR6, hRec6, hB6, hfb6⟩
  have hb6 : Below w5.heap.size w5 w6 := ((Below.refl _ _).alloc (Nat.le_refl _) _).trans hB6
  have hb46 := hb5.trans (hb6.mono hb5.size)
  have hbw6 := hbw4.trans (hb46.mono hbw4.size)
  have HR46 : Hid (Rdr w2.heap.size a2 len cap2 (p : Int) en sec bnd (.iface 36 (.pointer (some ⟨fb4, 0, none⟩))) w6) := Rdr.below HR4.out hb46 hsz4
  have HRec46 : Hid (Rec fb4 sec (p : Int) why4 w6) := Rec.below HRec4.out hb46 hfb4
  have HR6 : Hid (Rdr w5.heap.size a5 len cap5 (p : Int) en sec bnd (.iface 36 (.pointer (some ⟨fb6, 0, none⟩))) w6) := hR6
  have HRec6 : Hid (Rec fb6 sec (p : Int) why6 w6) := hRec6
  clear hs0 hs5 hb5 hb6 hB6 hb46 hbw4 hb4 hb2 HR4 HRec4 hR6 hRec6 hn hn2 hn5
  go_wp2_with fail
  refine (state_err _ fb4 _ _ _ _ _ _ _ _ _ _ HR46.out HRec46.out).mono ?_
  rintro e w7 ⟨rfl, rfl⟩
  go_wp2_with fail
  refine (state_err _ fb6 _ _ _ _ _ _ _ _ _ _ HR6.out HRec6.out).mono ?_
  rintro e w7 ⟨rfl, rfl⟩
  clear HR46 HR6 HRec46 HRec6
  go_wp2
  go_ret
  exact ⟨rfl, hbw6⟩

end Go.Proofs.Qxb6615475a
