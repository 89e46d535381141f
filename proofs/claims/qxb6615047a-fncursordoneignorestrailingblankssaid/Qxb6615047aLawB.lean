import Derived.Test.Qxb6615047aZZ
namespace Go.Proofs.Qxb6615047a
open Go.RowKit
set_option linter.unusedVariables false

def Good (w : World) (e : Ending) (w' : World) : Prop := e = .returned (.bool true) ∧ Below w.heap.size w w'

theorem cd_true (a : Option Addr) (len cap : Nat) (ok : Bool) (zs : List Int) (w : World) (hs : Seg w a len zs) (hcap : len ≤ cap) (hl : len ≤ 2097152) (hv : (ok && zs.all blk) = true) :
    Calls Try.prog 13 #[.slice a len cap, .bool ok] w fun e w' => ∃ a' len' cap', e = .returned (.tuple #[.bool true, .int .i64 1, .slice a' len' cap', .bool ok]) ∧ Below w.heap.size w w' := by
  refine (cursorDone_any a len cap ok zs w hs hcap hl).mono ?_
  rintro e w1 ⟨a', l', c', rfl, hb⟩
  exact ⟨a', l', c', by rw [hv]; simp, hb⟩

theorem cd_false (a : Option Addr) (len cap : Nat) (ok : Bool) (zs : List Int) (w : World) (hs : Seg w a len zs) (hcap : len ≤ cap) (hl : len ≤ 2097152) (hv : (ok && zs.all blk) = false) :
    Calls Try.prog 13 #[.slice a len cap, .bool ok] w fun e w' => ∃ a' len' cap', e = .returned (.tuple #[.bool false, .int .i64 0, .slice a' len' cap', .bool ok]) ∧ Below w.heap.size w w' := by
  refine (cursorDone_any a len cap ok zs w hs hcap hl).mono ?_
  rintro e w1 ⟨a', l', c', rfl, hb⟩
  exact ⟨a', l', c', by rw [hv]; simp, hb⟩

theorem allBlank_is (a : Option Addr) (len cap : Nat) (zs : List Int) (v : Bool) (w : World) (hs : Seg w a len zs) (hl : len ≤ 2097152) (hv : zs.all blk = v) :
    Calls Try.prog 9 #[.slice a len cap] w fun e w' => e = .returned (.bool v) ∧ w' = w := by
  subst hv
  exact allBlank_any a len cap zs w hs hl

theorem part_set2 (zs ps : List Int) (k : Nat) (h : k < ps.length) : (part (zs ++ ps) (zs.length + ps.length) (zs.length + k)).set (zs.length + k) (.int .u8 (ps[k]?.getD 0)) = part (zs ++ ps) (zs.length + ps.length) (zs.length + k + 1) := by
  have := part_set (zs ++ ps) (zs.length + ps.length) (zs.length + k) (by simp) (by omega)
  rw [← this, List.getElem?_append_right (by omega), show zs.length + k - zs.length = k by omega]

theorem part_set1 (zs ps : List Int) (k : Nat) (h : k < zs.length) : (part (zs ++ ps) (zs.length + ps.length) k).set k (.int .u8 (zs[k]?.getD 0)) = part (zs ++ ps) (zs.length + ps.length) (k + 1) := by
  have := part_set (zs ++ ps) (zs.length + ps.length) k (by simp) (by omega)
  rw [← this, List.getElem?_append_left h]

theorem part_cell {wr : World} {B n : Nat} {zs : List Int} {k : Nat} {g : Nat} (hown : wr.ownsRow B 5 1 (.slice (some ⟨g, 0, none⟩) n n) n (part zs n k)) (j : Nat) (hj : j < n) : ∃ v, wr.cell? ⟨g, j, none⟩ = some (.int .u8 v) := by
  rw [hown.cellAt j (by omega)]
  have hlp : (part zs n k).length = n := by have := hown.1; omega
  rw [List.getElem?_eq_getElem (by omega)]
  simp only [part, List.getElem_map]
  exact ⟨_, rfl⟩

/-- the world behind the two loops: the joined row reads as x and pad -/
def Joined (zs : List Int) (n k : Nat) (B : Nat) (w2 wr : World) : Prop :=
  wr.ownsRow B 5 1 (.slice (some ⟨B, 0, none⟩) n n) n (part zs n k) ∧ Below B w2 wr

theorem Joined.step {zs : List Int} {n k B : Nat} {w2 wr : World} (h : Joined zs n k B w2 wr) {v : Value} (hv : (part zs n k).set k v = part zs n (k + 1)) : Joined zs n (k + 1) B w2 (wr.setCell ⟨B, k, none⟩ v) := by
  have hst := h.1.stored k v
  rw [hv] at hst
  exact ⟨hst.1, h.2.setCell (Nat.le_refl _) _⟩

set_option maxHeartbeats 1000000 in
theorem lawB_core (a0 : Option Addr) (len0 cap0 : Nat) (zs : List Int) (a1 : Option Addr) (len1 cap1 : Nat) (ps : List Int) (ok : Bool) (w : World) (hs0 : Seg w a0 len0 zs) (hs1 : Seg w a1 len1 ps) (hn0 : a0 = none → len0 = 0)
    (hm0 : len0 ≤ 9223372036854775807) (hm1 : len1 ≤ 9223372036854775807) :
    Calls Try.prog 4 #[.slice a0 len0 cap0, .slice a1 len1 cap1, .bool ok] w fun e w' => Good w e w' := by
  obtain ⟨i0, hi, hz0, hz1, hz2⟩ := info_parts Try.info5
  by_cases hsz : len0 + len1 ≤ 1048576
  · have hA : ¬ (1048576 : Int) < (len0 : Int) := by omega
    have hB : ¬ (1048576 : Int) < (len1 : Int) := by omega
    cases hp : ps.all blk with
    | false =>
      have HP : Hid (ps.all blk = false) := hp
      clear hp
      go_enter Try.func4, Try.ntmps4
      go_wp2_with fail
      refine (zzB_any _ _ _ _ _ _ _ _ hm0 hm1).mono ?_
      rintro e w' ⟨rfl, rfl⟩
      simp only [hsz, decide_true]
      go_wp2_with fail
      refine (allBlank_is _ _ _ ps false _ hs1 (by omega) HP.out).mono ?_
      rintro e w' ⟨rfl, rfl⟩
      go_wp2
      go_ret
      exact ⟨rfl, Below.refl _ _⟩
    | true =>
      have HP : Hid (ps.all blk = true) := hp
      clear hp
      have HL0 : Hid (zs.length = len0) := hs0.1
      have HL1 : Hid (ps.length = len1) := hs1.1
      go_enter Try.func4, Try.ntmps4
      go_wp2_with fail
      refine (zzB_any _ _ _ _ _ _ _ _ hm0 hm1).mono ?_
      rintro e w' ⟨rfl, rfl⟩
      simp only [hsz, decide_true]
      go_wp2_with fail
      refine (allBlank_is _ _ _ ps true _ hs1 (by omega) HP.out).mono ?_
      rintro e w' ⟨rfl, rfl⟩
      go_wp2_with fail
      refine (clone_any _ _ _ zs _ hs0 hn0 (by omega)).mono ?_
      rintro e w2 ⟨a', cap', rfl, hn', hcap', hs', hb2⟩
      have hs1' := hs1.below hb2
      clear hs0 hn0 hs1
      go_wp2_with (at_make; refine wpList_make_full _ rfl _ _ 22 rfl w2.heap.size 5 i0 (.int .u8 0) 1 Try.underlying22 hi hz0 hz1 _ _ _ _ (len0 + len1) rfl rfl (by omega) (by omega) (by rw [hz2]; omega) (by unfold maxLen; omega) (Nat.le_refl _) ?_; intro w3 hown hgrow)
      have hJ : Joined (zs ++ ps) (len0 + len1) 0 w2.heap.size w2 w3 := ⟨by rw [part_zero]; exact hown, (Below.refl _ _).grown hgrow (Nat.le_refl _) (fun k e => by cases e)⟩
      clear hown hgrow
      go_loopw [8] (fun i wr => ∃ k : Nat, k ≤ len0 ∧ i = .int .i64 k ∧ Joined (zs ++ ps) (len0 + len1) k w2.heap.size w2 wr) (fun i _ => len0 - (intOf i).toNat)
      case atStart => exact ⟨0, Nat.zero_le _, rfl, hJ⟩
      case round =>
        obtain ⟨k, hk, rfl, hJr⟩ := hrel
        clear hJ
        by_cases hlt : k < len0
        · obtain ⟨b, o, rfl, hb, hc⟩ := hs'.2.resolve_left (by omega)
          have hck : wr.cell? ⟨b, o + k, none⟩ = some (.int .u8 (zs.getD k 0)) := (hJr.2.cell (p := ⟨b, o + k, none⟩) hb).trans (hc k hlt)
          have hfz := hJr.1.frozenAt k
          obtain ⟨cv, hcv⟩ := part_cell hJr.1 k (by omega)
          clear hc hs' hs1'
          go_wp2
          go_roundw
          case rel => exact ⟨k + 1, by omega, by go_num, hJr.step (by have := part_set1 zs ps k (by rw [HL0.out]; exact hlt); rw [HL0.out, HL1.out] at this; exact this)⟩
          case measure => simp [intOf]; omega
        · have hkl : len0 = k := by omega
          subst hkl
          clear hlt hk
          obtain ⟨wo, rfl⟩ : ∃ wo : World, wo = wr := ⟨_, rfl⟩
          go_wp2_with fail
          go_loopw [9] (fun i wr => ∃ k : Nat, k ≤ len1 ∧ i = .int .i64 k ∧ Joined (zs ++ ps) (len0 + len1) (len0 + k) w2.heap.size w2 wr) (fun i _ => len1 - (intOf i).toNat)
          case atStart => exact ⟨0, Nat.zero_le _, rfl, hJr⟩
          case round =>
            obtain ⟨k, hk, rfl, hJq⟩ := hrel
            clear hJr
            by_cases hlt : k < len1
            · obtain ⟨b, o, rfl, hb, hc⟩ := hs1'.2.resolve_left (by omega)
              have hck : wr.cell? ⟨b, o + k, none⟩ = some (.int .u8 (ps.getD k 0)) := (hJq.2.cell (p := ⟨b, o + k, none⟩) hb).trans (hc k hlt)
              have hfz := hJq.1.frozenAt (len0 + k)
              obtain ⟨cv, hcv⟩ := part_cell hJq.1 (len0 + k) (by omega)
              clear hc hs' hs1'
              go_wp2
              go_roundw
              case rel => exact ⟨k + 1, by omega, by go_num, hJq.step (by have := part_set2 zs ps k (by rw [HL1.out]; exact hlt); rw [HL0.out, HL1.out] at this; exact this)⟩
              case measure => simp [intOf]; omega
            · have hkl : len1 = k := by omega
              subst hkl
              clear hlt hk
              have hlen : (zs ++ ps).length = len0 + len1 := by rw [List.length_append, HL0.out, HL1.out]
              have hsj : Seg wr (some ⟨w2.heap.size, 0, none⟩) (len0 + len1) (zs ++ ps) := seg_of_owns hlen (by have := hJq.1; rw [part_len _ _ hlen] at this; exact this)
              have hsx : Seg wr a' len0 zs := hs'.below hJq.2
              have hbw := hb2.trans (hJq.2.mono hb2.size)
              have hall : (zs ++ ps).all blk = zs.all blk := by rw [List.all_append, HP.out, Bool.and_true]
              have HA : Hid ((zs ++ ps).all blk = zs.all blk) := hall
              clear hlen hJq hs' hs1' hall hb2
              cases hok : (ok && zs.all blk) with
              | true =>
                have HK : Hid ((ok && zs.all blk) = true) := hok
                clear hok
                go_wp2_with fail
                refine (cd_true _ _ _ ok zs _ hsx hcap' (by omega) HK.out).mono ?_
                rintro e w4 ⟨a4, l4, c4, rfl, hb4⟩
                have hsx4 := hsx.below hb4
                have hsj4 := hsj.below hb4
                clear hsx hsj
                go_wp2_with fail
                refine (cd_true _ _ _ ok (zs ++ ps) _ hsj4 (Nat.le_refl _) (by omega) (by rw [HA.out]; exact HK.out)).mono ?_
                rintro e w5 ⟨a5, l5, c5, rfl, hb5⟩
                have hsx5 := hsx4.below hb5
                clear hsx4 hsj4
                have hz : zs.all blk = true := (Bool.and_eq_true _ _ ▸ HK.out).2
                obtain rfl : ok = true := (Bool.and_eq_true _ _ ▸ HK.out).1
                have HZ : Hid (zs.all blk = true) := hz
                clear hz HK
                go_wp2_with fail
                refine (allBlank_is _ _ _ zs true _ hsx5 (by omega) HZ.out).mono ?_
                rintro e w' ⟨rfl, rfl⟩
                clear hsx5
                go_wp2
                go_ret
                exact ⟨rfl, (hbw.trans (hb4.mono hbw.size)).trans (hb5.mono (hbw.trans (hb4.mono hbw.size)).size)⟩
              | false =>
                have HK : Hid ((ok && zs.all blk) = false) := hok
                clear hok
                go_wp2_with fail
                refine (cd_false _ _ _ ok zs _ hsx hcap' (by omega) HK.out).mono ?_
                rintro e w4 ⟨a4, l4, c4, rfl, hb4⟩
                have hsx4 := hsx.below hb4
                have hsj4 := hsj.below hb4
                clear hsx hsj
                go_wp2_with fail
                refine (cd_false _ _ _ ok (zs ++ ps) _ hsj4 (Nat.le_refl _) (by omega) (by rw [HA.out]; exact HK.out)).mono ?_
                rintro e w5 ⟨a5, l5, c5, rfl, hb5⟩
                have hsx5 := hsx4.below hb5
                clear hsx4 hsj4
                cases ok with
                | false =>
                  go_wp2
                  go_ret
                  exact ⟨rfl, (hbw.trans (hb4.mono hbw.size)).trans (hb5.mono (hbw.trans (hb4.mono hbw.size)).size)⟩
                | true =>
                  have HZ : Hid (zs.all blk = false) := (Bool.true_and _).symm.trans HK.out
                  clear HK
                  go_wp2_with fail
                  refine (allBlank_is _ _ _ zs false _ hsx5 (by omega) HZ.out).mono ?_
                  rintro e w' ⟨rfl, rfl⟩
                  clear hsx5
                  go_wp2
                  go_ret
                  exact ⟨rfl, (hbw.trans (hb4.mono hbw.size)).trans (hb5.mono (hbw.trans (hb4.mono hbw.size)).size)⟩
  · go_enter Try.func4, Try.ntmps4
    go_wp2_with fail
    refine (zzB_any _ _ _ _ _ _ _ _ hm0 hm1).mono ?_
    rintro e w' ⟨rfl, rfl⟩
    simp only [hsz, decide_false]
    go_wp2
    go_ret
    exact ⟨rfl, Below.refl _ _⟩

end Go.Proofs.Qxb6615047a
