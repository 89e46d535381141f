import Derived.Test.Qxb6615643aClone
namespace Go.Proofs.Qxb6615643a
open Go.RowKit
set_option linter.unusedVariables false

/-- what groupsFits' yes says of its arguments -/
structure Fits (len len1 : Nat) (ss : List ByteArray) (G : List (List Int)) : Prop where
  n4 : len ≤ 4096
  eq : len1 = len
  dist : ∀ i j, i < j → j < len → ss.getD i ByteArray.empty ≠ ss.getD j ByteArray.empty
  rng : ∀ x, x < len → ∀ t, t < (G.getD x []).length → 0 ≤ (G.getD x []).getD t 0 ∧ (G.getD x []).getD t 0 < len
  lens : ∀ x, x < len1 → (G.getD x []).length ≤ 131072

def FitEnd (len len1 : Nat) (ss : List ByteArray) (G : List (List Int)) (w : World) (e : Ending) (w' : World) : Prop :=
  ∃ b : Bool, e = .returned (.bool b) ∧ Below w.heap.size w w' ∧ (b = true → Fits len len1 ss G)

theorem fit_no {len len1 : Nat} {ss : List ByteArray} {G : List (List Int)} {w w' : World} (hb : Below w.heap.size w w') : FitEnd len len1 ss G w (.returned (.bool false)) w' := ⟨false, rfl, hb, fun h => Bool.noConfusion h⟩

theorem str_ne {s t : ByteArray} (h : s ≠ t) : (s.toList == t.toList) = false := by
  rw [beq_eq_false_iff_ne, ByteArray.toList_eq, ByteArray.toList_eq]
  exact fun e => h (Go.WideShapes.bytes_inj e)

/-- a row of ints of the call's own, whatever they are -/
def Stamp (g n : Nat) (w wr : World) : Prop := (∃ vs : List Int, wr.ownsRow g 3 1 (.slice (some ⟨g, 0, none⟩) n n) n (vs.map (Value.int .i64))) ∧ Below g w wr

theorem Stamp.cell {g n : Nat} {w wr : World} (h : Stamp g n w wr) (i : Nat) (hi : i < n) : (∃ v, wr.cell? ⟨g, i, none⟩ = some (.int .i64 v)) ∧ wr.frozen? ⟨g, i, none⟩ = false := by
  obtain ⟨⟨vs, h⟩, _⟩ := h
  have hl := owns_len h
  refine ⟨⟨vs.getD i 0, ?_⟩, h.frozenAt i⟩
  rw [h.cellAt i (by omega)]
  simp at hl
  simp [List.getD, show i < vs.length by omega]

theorem Stamp.set {g n : Nat} {w wr : World} (h : Stamp g n w wr) (i : Nat) (v : Int) : Stamp g n w (wr.setCell ⟨g, i, none⟩ (.int .i64 v)) := by
  obtain ⟨⟨vs, h⟩, hb⟩ := h
  have := (h.stored i (.int .i64 v)).1
  refine ⟨⟨vs.set i v, ?_⟩, hb.setCell (p := ⟨g, i, none⟩) (Nat.le_refl g) _⟩
  rw [List.map_set]
  exact this

theorem Stamp.made {g n : Nat} {w wr : World} (h : wr.ownsRow g 3 1 (.slice (some ⟨g, 0, none⟩) n n) n (madeCells (Value.int .i64 0).cells (n * 1)).toList) (hb : Below g w wr) : Stamp g n w wr := by
  refine ⟨⟨List.replicate (n * 1) 0, ?_⟩, hb⟩
  have e : (madeCells (Value.int .i64 0).cells (n * 1)).toList = List.replicate (n * 1) (Value.int .i64 0) := toList_madeCells_one _ _
  rw [e] at h
  simpa using h

set_option maxRecDepth 100000 in
set_option maxHeartbeats 4000000 in
theorem fits_any (a : Option Addr) (len cap : Nat) (ss : List ByteArray) (a1 : Option Addr) (len1 cap1 : Nat) (G : List (List Int)) (w : World) (hs : StrRow w a len ss) (hg : GrRow w a1 len1 G) (hm : len ≤ 9223372036854775807) (hm1 : len1 ≤ 9223372036854775807) :
    Calls Try.prog 6 #[.slice a len cap, .slice a1 len1 cap1] w fun e w' => FitEnd len len1 ss G w e w' := by
  obtain ⟨i0, hi, hz0, hz1, hz2⟩ := info_parts Try.info3
  by_cases h1 : (4096 : Int) < (len : Int)
  · clear hs hg
    go_enter Try.func6, Try.ntmps6
    go_wp2
    go_ret
    exact fit_no (Below.refl _ _)
  · by_cases h2 : (4096 : Int) < (len1 : Int)
    · clear hs hg
      go_enter Try.func6, Try.ntmps6
      go_wp2
      go_ret
      exact fit_no (Below.refl _ _)
    · have HS : Hid (StrRow w a len ss) := hs
      have HG : Hid (GrRow w a1 len1 G) := hg
      clear hs hg
      go_enter Try.func6, Try.ntmps6
      go_wp2
      go_loop [5, 6] (fun z i => ∃ (k : Nat) (n : Int), k ≤ len ∧ i = .int .i64 k ∧ z = .int .i64 n ∧ 0 ≤ n ∧ n ≤ 1048576) (fun _ i => len - (intOf i).toNat)
      case atStart => exact ⟨0, _, Nat.zero_le _, rfl, rfl, by omega, by omega⟩
      case round =>
        obtain ⟨k, n, hk, rfl, rfl, hn0, hn1⟩ := hrel
        by_cases hlt : k < len
        · obtain ⟨b, o, rfl, hb, hc⟩ := HS.out.2.resolve_left (by omega)
          have hck := hc k hlt
          generalize ss.getD k ByteArray.empty = s at hck
          clear hc HG
          by_cases h2 : (1048576 : Int) < (s.size : Int)
          · go_wp2
            go_ret
            exact fit_no (Below.refl _ _)
          · by_cases h3 : (1048576 : Int) < n + (16 + (s.size : Int))
            · go_wp2
              go_ret
              exact fit_no (Below.refl _ _)
            · go_wp2
              go_round
              case rel => exact ⟨k + 1, n + (16 + (s.size : Int)), by omega, by go_num, rfl, by omega, by omega⟩
              case measure => simp [intOf]; omega
        · go_wp2
          go_loop [5, 7] (fun z i => ∃ (k : Nat) (n : Int), k ≤ len1 ∧ i = .int .i64 k ∧ z = .int .i64 n ∧ 0 ≤ n ∧ n ≤ 1048576 ∧ ∀ x, x < k → (G.getD x []).length ≤ 131072) (fun _ i => len1 - (intOf i).toNat)
          case atStart => exact ⟨0, _, Nat.zero_le _, rfl, rfl, by omega, by omega, fun x hx => by omega⟩
          case round =>
            obtain ⟨k1, m, hk1, rfl, rfl, hm0, hm2, hlens⟩ := hrel
            have HLN : Hid (∀ x, x < k1 → (G.getD x []).length ≤ 131072) := hlens
            clear hlens
            by_cases hlt1 : k1 < len1
            · obtain ⟨_, fa, fc, h0, hr⟩ := HG.out
              obtain ⟨b, o, rfl, hb, hc⟩ := h0.resolve_left (by omega)
              have hck := hc k1 hlt1
              obtain ⟨q, HQ⟩ : ∃ q, Hid ((G.getD k1 []).length = q) := ⟨_, rfl⟩
              rw [HQ.out] at hck
              clear hc h0 hr HS
              by_cases h2 : (131072 : Int) < (q : Int)
              · go_wp2
                go_ret
                exact fit_no (Below.refl _ _)
              · by_cases h3 : (1048576 : Int) < m + (24 + 8 * (q : Int))
                · go_wp2
                  go_ret
                  exact fit_no (Below.refl _ _)
                · go_wp2
                  go_round
                  case rel => exact ⟨k1 + 1, m + (24 + 8 * (q : Int)), by omega, by go_num, rfl, by omega, by omega, fun x hx => by
                      by_cases hxk : x = k1
                      · subst hxk; rw [HQ.out]; omega
                      · exact HLN.out x (by omega)⟩
                  case measure => simp [intOf]; omega
            · have hkk : len1 = k1 := by omega
              subst hkk
              by_cases heq : len1 = len
              · subst heq
                go_wp2
                go_loopw [9] (fun i wr => ∃ (x q : Nat), x ≤ len1 ∧ i = .int .i64 x ∧ wr = w.drewN q ∧ ∀ u v, u < x → u < v → v < len1 → ss.getD u ByteArray.empty ≠ ss.getD v ByteArray.empty) (fun i _ => len1 - (intOf i).toNat)
                case atStart => exact ⟨0, 0, Nat.zero_le _, rfl, rfl, fun u v h => by omega⟩
                case round =>
                  obtain ⟨x, q, hx, rfl, rfl, hdist⟩ := hrel
                  have HDI : Hid (∀ u v, u < x → u < v → v < len1 → ss.getD u ByteArray.empty ≠ ss.getD v ByteArray.empty) := hdist
                  clear hdist
                  by_cases hltx : x < len1
                  · obtain ⟨b, o, rfl, hb, hc⟩ := HS.out.2.resolve_left (by omega)
                    go_wp2
                    go_loopw [10] (fun i wr => ∃ (y q : Nat), x + 1 ≤ y ∧ y ≤ len1 ∧ i = .int .i64 y ∧ wr = w.drewN q ∧ ∀ v, x < v → v < y → ss.getD x ByteArray.empty ≠ ss.getD v ByteArray.empty) (fun i _ => len1 - (intOf i).toNat)
                    case atStart => exact ⟨x + 1, q, Nat.le_refl _, hltx, by go_num, rfl, fun v h1 h2 => by omega⟩
                    case round =>
                      obtain ⟨y, q2, hy1, hy, rfl, rfl, hdy⟩ := hrel
                      have HDY : Hid (∀ v, x < v → v < y → ss.getD x ByteArray.empty ≠ ss.getD v ByteArray.empty) := hdy
                      clear hdy
                      by_cases hlty : y < len1
                      · have hcx := hc x hltx
                        have hcy := hc y hlty
                        clear hc
                        by_cases hse : ss.getD x ByteArray.empty = ss.getD y ByteArray.empty
                        · rw [← hse] at hcy
                          generalize ss.getD x ByteArray.empty = sx at hcx hcy
                          clear hse
                          go_wp2
                          go_quiet (fail)
                          go_wp2
                          go_ret
                          exact fit_no (below_drewN (below_drewN (Below.refl _ _) _) _)
                        · have hbf := str_ne hse
                          have HSE : Hid (ss.getD x ByteArray.empty ≠ ss.getD y ByteArray.empty) := hse
                          clear hse
                          obtain ⟨sx, HX⟩ : ∃ sx, Hid (ss.getD x ByteArray.empty = sx) := ⟨_, rfl⟩
                          obtain ⟨sy, HY⟩ : ∃ sy, Hid (ss.getD y ByteArray.empty = sy) := ⟨_, rfl⟩
                          rw [HX.out] at hcx hbf
                          rw [HY.out] at hcy hbf
                          go_wp2
                          go_quiet (fail)
                          go_wp2
                          go_roundw
                          case rel => exact ⟨y + 1, q2 + nq, by omega, by omega, by go_num, rfl, fun v h1 h2 => by
                              by_cases hvy : v = y
                              · subst hvy; exact HSE.out
                              · exact HDY.out v h1 (by omega)⟩
                          case measure => simp [intOf]; omega
                      · clear hc
                        go_wp2
                        go_roundw
                        case rel => exact ⟨x + 1, q2, by omega, by go_num, rfl, fun u v h1 h2 h3 => by
                            by_cases hux : u = x
                            · subst hux; exact HDY.out v h2 (by omega)
                            · exact HDI.out u v (by omega) h2 h3⟩
                        case measure => simp [intOf]; omega
                  · have hxx : len1 = x := by omega
                    subst hxx
                    go_wp2_with (at_make; refine wpList_make_full _ rfl (.tmp 95) (.tmp 95) 33 rfl w.heap.size 3 i0 (.int .i64 0) 1 Try.underlying33 hi hz0 hz1 _ _ _ _ len1 rfl rfl rfl rfl (by rw [hz2]; omega) (by unfold maxLen; omega) (Nat.le_refl _) ?_; intro w1 hown hgrow)
                    have hSt : Stamp w.heap.size len1 w w1 := Stamp.made hown ((below_drewN (Below.refl _ _) q).grown hgrow (Nat.le_refl _) (fun k e => by cases e))
                    clear hown hgrow
                    go_loopw [12] (fun i wr => ∃ x : Nat, x ≤ len1 ∧ i = .int .i64 x ∧ Stamp w.heap.size len1 w wr ∧ ∀ u, u < x → ∀ t, t < (G.getD u []).length → 0 ≤ (G.getD u []).getD t 0 ∧ (G.getD u []).getD t 0 < len1) (fun i _ => len1 - (intOf i).toNat)
                    case atStart => exact ⟨0, Nat.zero_le _, rfl, hSt, fun u h => by omega⟩
                    case round =>
                      obtain ⟨x, hx, rfl, hSr, hrg⟩ := hrel
                      have HRG : Hid (∀ u, u < x → ∀ t, t < (G.getD u []).length → 0 ≤ (G.getD u []).getD t 0 ∧ (G.getD u []).getD t 0 < len1) := hrg
                      clear hSt hrg
                      by_cases hltx : x < len1
                      · obtain ⟨_, fa, fc, h0, hr⟩ := HG.out
                        obtain ⟨b, o, rfl, hb, hc⟩ := h0.resolve_left (by omega)
                        have hck := (hSr.2.cell (p := ⟨b, o + x, none⟩) hb).trans (hc x hltx)
                        have HIN : Hid (IntRow w (fa x) (G.getD x []).length (G.getD x [])) := (hr x hltx).1
                        have hlx := HLN.out x (by omega)
                        obtain ⟨m2, HM⟩ : ∃ m2, Hid ((G.getD x []).length = m2) := ⟨_, rfl⟩
                        obtain ⟨fx, HFX⟩ : ∃ fx, Hid (fa x = fx) := ⟨_, rfl⟩
                        rw [HM.out] at hck hlx
                        rw [HFX.out] at hck
                        clear hc h0 hr
                        obtain ⟨wo, rfl⟩ : ∃ wo : World, wo = wr := ⟨_, rfl⟩
                        go_wp2_with fail
                        go_loopw [107] (fun i wr => ∃ t : Nat, t ≤ m2 ∧ i = .int .i64 t ∧ Stamp w.heap.size len1 w wr ∧ ∀ v, v < t → 0 ≤ (G.getD x []).getD v 0 ∧ (G.getD x []).getD v 0 < len1) (fun i _ => m2 - (intOf i).toNat)
                        case atStart => exact ⟨0, Nat.zero_le _, rfl, hSr, fun v h => by omega⟩
                        case round =>
                          obtain ⟨t, ht, rfl, hSt, hrt⟩ := hrel
                          have HRT : Hid (∀ v, v < t → 0 ≤ (G.getD x []).getD v 0 ∧ (G.getD x []).getD v 0 < len1) := hrt
                          clear hrt hck hSr
                          by_cases hltt : t < m2
                          · obtain ⟨_, hin⟩ := HIN.out
                            rw [HFX.out, HM.out] at hin
                            obtain ⟨b', o', rfl, hb', hc'⟩ := hin.resolve_left (by omega)
                            have hct := (hSt.2.cell (p := ⟨b', o' + t, none⟩) hb').trans (hc' t hltt)
                            obtain ⟨z, HZ⟩ : ∃ z, Hid ((G.getD x []).getD t 0 = z) := ⟨_, rfl⟩
                            rw [HZ.out] at hct
                            have hbS := hSt.2
                            clear hc' hin
                            by_cases hz1' : z < 0
                            · clear hSt
                              go_wp2
                              go_ret
                              exact fit_no hbS
                            · by_cases hz2' : (len1 : Int) ≤ z
                              · clear hSt
                                go_wp2
                                go_ret
                                exact fit_no hbS
                              · obtain ⟨y, rfl⟩ := Int.eq_ofNat_of_zero_le (show 0 ≤ z by omega)
                                obtain ⟨⟨sv, hcy⟩, hfy⟩ := hSt.cell y (by omega)
                                by_cases hsv : sv = (x : Int) + 1
                                · subst hsv
                                  clear hSt
                                  go_wp2
                                  go_ret
                                  exact fit_no hbS
                                · have hsv' : (sv == (x : Int) + 1) = false := by simpa using hsv
                                  have HST : Hid (Stamp w.heap.size len1 w (wr.setCell ⟨w.heap.size, y, none⟩ (.int .i64 ((x : Int) + 1)))) := hSt.set y _
                                  clear hSt hsv hbS
                                  go_wp2
                                  go_roundw
                                  case rel => exact ⟨t + 1, by omega, by go_num, HST.out, fun v hv => by
                                      by_cases hvt : v = t
                                      · subst hvt; rw [HZ.out]; omega
                                      · exact HRT.out v (by omega)⟩
                                  case measure => simp [intOf]; omega
                          · go_wp2
                            go_roundw
                            case rel => exact ⟨x + 1, by omega, by go_num, hSt, fun u hu t' ht' => by
                                by_cases hux : u = x
                                · subst hux; exact HRT.out t' (by have := HM.out; omega)
                                · exact HRG.out u (by omega) t' ht'⟩
                            case measure => simp [intOf]; omega
                      · have hxx : len1 = x := by omega
                        subst hxx
                        have hbS := hSr.2
                        clear hSr
                        go_wp2
                        go_ret
                        exact ⟨true, rfl, hbS, fun _ => ⟨by omega, rfl, fun u v h1 h2 => HDI.out u v (by omega) h1 h2, HRG.out, HLN.out⟩⟩
              · have hne : ((len1 : Int) != (len : Int)) = true := by simp; omega
                go_wp2
                go_ret
                exact fit_no (Below.refl _ _)

end Go.Proofs.Qxb6615643a
