import Derived.Test.Qxb6615475aCut
import Derived.Test.Qxb6615475aLawS
namespace Go.Proofs.Qxb6615475a
open Go.RowKit
set_option linter.unusedVariables false

theorem Rdr.below {rb B : Nat} {a : Option Addr} {len cap : Nat} {off en : Int} {sec bnd : ByteArray} {err : Value} {w w' : World} (h : Rdr rb a len cap off en sec bnd err w) (hb : Below B w w') (hr : rb < B) : Rdr rb a len cap off en sec bnd err w' :=
  ⟨(hb.cell (p := ⟨rb, 0, none⟩) hr).trans h.c0, (hb.cell (p := ⟨rb, 1, none⟩) hr).trans h.c1, (hb.cell (p := ⟨rb, 2, none⟩) hr).trans h.c2, (hb.cell (p := ⟨rb, 3, none⟩) hr).trans h.c3, (hb.cell (p := ⟨rb, 4, none⟩) hr).trans h.c4, (hb.cell (p := ⟨rb, 5, none⟩) hr).trans h.c5,
    (hb.frozen (p := ⟨rb, 1, none⟩) hr).trans h.f1, (hb.frozen (p := ⟨rb, 5, none⟩) hr).trans h.f5⟩

theorem Rec.below {fb B : Nat} {sec why : ByteArray} {off : Int} {w w' : World} (h : Rec fb sec off why w) (hb : Below B w w') (hr : fb < B) : Rec fb sec off why w' :=
  ⟨(hb.cell (p := ⟨fb, 0, none⟩) hr).trans h.r0, (hb.cell (p := ⟨fb, 1, none⟩) hr).trans h.r1, (hb.cell (p := ⟨fb, 2, none⟩) hr).trans h.r2⟩

theorem Rdr.lt {rb : Nat} {a : Option Addr} {len cap : Nat} {off en : Int} {sec bnd : ByteArray} {err : Value} {w : World} (h : Rdr rb a len cap off en sec bnd err w) : rb < w.heap.size := World.block_lt_of_cell? _ _ h.c0

theorem Seg.belowB {B : Nat} {w w' : World} {a : Option Addr} {len : Nat} {zs : List Int} (h : Seg w a len zs) (hb : Below B w w') (hB : w.heap.size ≤ B) : Seg w' a len zs := h.below (hb.mono hB)

theorem seg_zero {w : World} {a a' : Option Addr} {len p k : Nat} {zs : List Int} (h : Seg w a len zs) (hpk : p + k ≤ len) (hk : k ≤ 0) : Seg w a' k ((zs.drop p).take k) := seg_cut h hpk (fun h => by omega)

theorem rb_okN (rb : Nat) (a : Option Addr) (len cap : Nat) (p k : Nat) (n en : Int) (sec bnd : ByteArray) (w : World) (h : Rdr rb a len cap (p : Int) en sec bnd .nilIface w) (h1 : (p : Int) + (k : Int) ≤ en) (h2 : en ≤ len) (hlc : len ≤ cap) (hl : len ≤ 1048576) (hnk : n = (k : Int)) :
    Calls Try.prog 8 #[.pointer (some ⟨rb, 0, none⟩), .int .i64 n] w fun e w' => OkEnd rb a len cap ((p : Int) + (k : Int)) en sec bnd k (a.map (·.add p)) w e w' := by
  subst hnk
  exact rb_okA rb a len cap p k en sec bnd w h h1 h2 hlc hl

theorem eq_cut (a : Option Addr) (l1 l2 c : Nat) (zs : List Int) (a' : Option Addr) (c' : Nat) (w : World) (hs : Seg w a l1 zs) (hs' : Seg w a' l1 zs) (hl : l1 ≤ 2097152) (he : l2 = l1) :
    Calls Try.prog 10 #[.slice a l1 c, .slice a' l2 c'] w fun e w' => Quiet true w e w' := by
  subst he
  exact eq_any a l2 c zs a' c' w hs hs' hl

set_option maxRecDepth 100000 in
set_option maxHeartbeats 2000000 in
theorem lawP_I (a : Option Addr) (len cap p k1 k2 : Nat) (zs : List Int) (en : Int) (sec bnd : ByteArray) (w : World) (hs : Seg w a len zs) (hn : a = none → len = 0) (hlc : len ≤ cap) (hsz : len + sec.size + bnd.size ≤ 1048576)
    (h2 : (p : Int) ≤ en) (h3 : en ≤ len) (hI : (k1 : Int) + (k2 : Int) ≤ en - (p : Int)) :
    Calls Try.prog 3 #[.slice a len cap, .int .i64 p, .int .i64 en, .string sec, .string bnd, .int .i64 k1, .int .i64 k2] w fun e w' => Good w e w' := by
  have hzz : decide (len + sec.size + bnd.size ≤ 1048576) = true := by simpa using hsz
  have hA1 : ¬ (1048576 : Int) < (len : Int) := by omega
  have hA2 : ¬ (1048576 : Int) < (sec.size : Int) := by omega
  have hA3 : ¬ (1048576 : Int) < (bnd.size : Int) := by omega
  go_enter Try.func3, Try.ntmps3
  go_wp2_with fail
  refine (zzA_any _ _ _ _ _ _ _ _ _ _ (by omega) (by omega) (by omega)).mono ?_
  rintro e w' ⟨rfl, rfl⟩
  rw [hzz]
  go_wp2_with fail
  refine (clone_any _ _ _ zs _ hs hn (by omega)).mono ?_
  rintro e w2 ⟨a2, cap2, rfl, hn2, hcap2, hs2, hb2⟩
  go_wp2_with (go_at_call 6; go_in)
  refine (rb_okA _ a2 len cap2 p k1 en sec bnd _ (rdr_new _ _ _ _ _ _ _ _) (by omega) h3 hcap2 (by omega)).mono ?_
  rintro e w3 ⟨a3, c3, rfl, ha3, hR3, hB3⟩
  have hR3' : Rdr w2.heap.size a2 len cap2 ((p + k1 : Nat) : Int) en sec bnd .nilIface w3 := by rw [Int.natCast_add]; exact hR3
  have hb3 : Below w2.heap.size w2 w3 := ((Below.refl _ _).alloc (Nat.le_refl _) _).trans hB3
  have HR3 : Hid (_) := hR3'
  clear hR3 hR3' hB3
  go_wp2_with fail
  refine (rb_okA _ a2 len cap2 (p + k1) k2 en sec bnd _ HR3.out (by omega) h3 hcap2 (by omega)).mono ?_
  rintro e w4 ⟨a4, c4, rfl, ha4, hR4, hB4⟩
  have hb4 : Below w2.heap.size w2 w4 := hb3.trans hB4
  have hbw4 : Below w'.heap.size w' w4 := hb2.trans (hb4.mono hb2.size)
  have hs4 := hs2.below hb4
  have hs0 := hs.below hbw4
  have hsz4 : w2.heap.size < w4.heap.size := hR4.lt
  have HR4 : Hid (_) := hR4
  clear hR4 HR3 hb3 hB4 hs2 hs
  go_wp2_with fail
  refine (clone_any _ _ _ zs _ hs0 hn (by omega)).mono ?_
  rintro e w5 ⟨a5, cap5, rfl, hn5, hcap5, hs5, hb5⟩
  go_wp2_with (go_at_call 6; go_in)
  refine (rb_okN _ a5 len cap5 p (k1 + k2) _ en sec bnd _ (rdr_new _ _ _ _ _ _ _ _) (by omega) h3 hcap5 (by omega) (by omega)).mono ?_
  rintro e w6 ⟨a6, c6, rfl, ha6, hR6, hB6⟩
  have hb6 : Below w5.heap.size w5 w6 := ((Below.refl _ _).alloc (Nat.le_refl _) _).trans hB6
  have hb46 : Below w4.heap.size w4 w6 := hb5.trans (hb6.mono hb5.size)
  have hbw6 : Below w'.heap.size w' w6 := hbw4.trans (hb46.mono hbw4.size)
  have HR46 : Hid (Rdr w2.heap.size a2 len cap2 (((p + k1 : Nat) : Int) + (k2 : Int)) en sec bnd .nilIface w6) := Rdr.below HR4.out hb46 hsz4
  have HR6 : Hid (_) := hR6
  have HA := seg_cut (k := k1) (hs4.below hb46) (by omega) ha3
  have HB := seg_cut (k := k2) (hs4.below hb46) (by omega) ha4
  have HC := seg_cut (k := k1 + k2) (hs5.below hb6) (by omega) ha6
  have hs6 := hs0.below hb46
  have HHA : Hid (Seg w6 a3 k1 ((zs.drop p).take k1)) := HA
  have HHB : Hid (Seg w6 a4 k2 ((zs.drop (p + k1)).take k2)) := HB
  have HHC : Hid (Seg w6 a6 (k1 + k2) ((zs.drop p).take (k1 + k2))) := HC
  have HS6 : Hid (Seg w6 a len zs) := hs6
  clear HA HB HC hs6 hs0 hs4 hs5 hb5 hb6 hB6 hb46 hbw4 hb4 hb2 HR4 ha3 ha4 ha6 hR6 hn hn2 hn5
  go_wp2_with fail
  refine (state_nil _ _ _ _ _ _ _ _ _ HR46.out).mono ?_
  rintro e w7 ⟨rfl, rfl⟩
  go_wp2_with fail
  refine (state_nil _ _ _ _ _ _ _ _ _ HR6.out).mono ?_
  rintro e w7 ⟨rfl, rfl⟩
  clear HR46 HR6
  by_cases hc1 : cap = p
  · have hc1' : p = cap := hc1.symm
    clear hc1
    subst hc1'
    have hk1 : k1 ≤ 0 := by omega
    have hk2 : k2 ≤ 0 := by omega
    go_wp2_with fail
    refine (eq_cut _ _ _ _ ((zs.drop p).take k1) _ _ _ HHA.out (seg_zero HS6.out (by omega) (by omega)) (by omega) (by omega)).mono ?_
    rintro e w8 ⟨rfl, m8, rfl⟩
    go_wp2_with fail
    refine (eq_cut _ _ _ _ ((zs.drop (p + k1)).take k2) _ _ _ (HHB.out.below (below_drewN (Below.refl _ _) m8)) (Seg.below (seg_zero HS6.out (by omega) (by omega)) (below_drewN (Below.refl _ _) m8)) (by omega) (by omega)).mono ?_
    rintro e w9 ⟨rfl, m9, rfl⟩
    go_wp2_with fail
    refine (eq_cut _ _ _ _ ((zs.drop p).take (k1 + k2)) _ _ _ (HHC.out.below (below_drewN (Below.refl _ _) _)) (Seg.below (seg_zero HS6.out (by omega) (by omega)) (below_drewN (Below.refl _ _) _)) (by omega) (by omega)).mono ?_
    rintro e w10 ⟨rfl, m10, rfl⟩
    go_wp2
    go_ret
    exact ⟨rfl, below_drewN hbw6 _⟩
  · by_cases hc2 : cap = p + k1
    · have hk2 : k2 ≤ 0 := by omega
      have hc3 : ¬ p + k1 = p := by omega
      subst hc2
      go_wp2_with fail
      refine (eq_cut _ _ _ _ ((zs.drop p).take k1) _ _ _ HHA.out (seg_cut HS6.out (by omega) (fun _ => rfl)) (by omega) (by omega)).mono ?_
      rintro e w8 ⟨rfl, m8, rfl⟩
      go_wp2_with fail
      refine (eq_cut _ _ _ _ ((zs.drop (p + k1)).take k2) _ _ _ (HHB.out.below (below_drewN (Below.refl _ _) m8)) (Seg.below (seg_zero HS6.out (by omega) (by omega)) (below_drewN (Below.refl _ _) m8)) (by omega) (by omega)).mono ?_
      rintro e w9 ⟨rfl, m9, rfl⟩
      go_wp2_with fail
      refine (eq_cut _ _ _ _ ((zs.drop p).take (k1 + k2)) _ _ _ (HHC.out.below (below_drewN (Below.refl _ _) _)) (Seg.below (seg_cut HS6.out (by omega) (fun _ => rfl)) (below_drewN (Below.refl _ _) _)) (by omega) (by omega)).mono ?_
      rintro e w10 ⟨rfl, m10, rfl⟩
      go_wp2
      go_ret
      exact ⟨rfl, below_drewN hbw6 _⟩
    · go_wp2_with fail
      refine (eq_cut _ _ _ _ ((zs.drop p).take k1) _ _ _ HHA.out (seg_cut HS6.out (by omega) (fun _ => rfl)) (by omega) (by omega)).mono ?_
      rintro e w8 ⟨rfl, m8, rfl⟩
      go_wp2_with fail
      refine (eq_cut _ _ _ _ ((zs.drop (p + k1)).take k2) _ _ _ (HHB.out.below (below_drewN (Below.refl _ _) m8)) (Seg.below (seg_cut HS6.out (by omega) (fun _ => rfl)) (below_drewN (Below.refl _ _) m8)) (by omega) (by omega)).mono ?_
      rintro e w9 ⟨rfl, m9, rfl⟩
      go_wp2_with fail
      refine (eq_cut _ _ _ _ ((zs.drop p).take (k1 + k2)) _ _ _ (HHC.out.below (below_drewN (Below.refl _ _) _)) (Seg.below (seg_cut HS6.out (by omega) (fun _ => rfl)) (below_drewN (Below.refl _ _) _)) (by omega) (by omega)).mono ?_
      rintro e w10 ⟨rfl, m10, rfl⟩
      go_wp2
      go_ret
      exact ⟨rfl, below_drewN hbw6 _⟩

end Go.Proofs.Qxb6615475a
