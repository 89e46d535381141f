import Derived.Test.Qxb6615643aRev
import Derived.Test.Qxb6615643aBfs
import Derived.Deep.Cut
namespace Go.Proofs.Qxb6615643a
open Go.RowKit
set_option linter.unusedVariables false

theorem own_shape' {w : World} {B n : Nat} {v : Value} {xs : List Value} (h : w.ownsRow B 3 1 v (n + 1) xs) : ∃ g c, v = .slice (some ⟨g, 0, none⟩) (n + 1) c := by
  rcases h.2 with ⟨_, h0⟩ | ⟨g', cap', cur, h', _⟩
  · omega
  · exact ⟨g', cap', h'⟩

/-- block g is the row zs of ints -/
def IRow (g : Nat) (zs : List Int) (w : World) : Prop := w.heap[g]? = some (.cells (zs.map (Value.int .i64)).toArray 3 (0, 0))

theorem IRow.cell {g : Nat} {zs : List Int} {w : World} (h : IRow g zs w) (i : Nat) (hi : i < zs.length) : w.cell? ⟨g, i, none⟩ = some (.int .i64 (zs.getD i 0)) := by
  rw [cell_of_row w g i _ 3 (0, 0) h]
  simp [List.getD, hi]

theorem IRow.frozen {g : Nat} {zs : List Int} {w : World} (h : IRow g zs w) (i : Nat) : w.frozen? ⟨g, i, none⟩ = false := frozen_of_row w g i _ 3 h

theorem IRow.set {g : Nat} {zs : List Int} {w : World} (h : IRow g zs w) (x : Nat) (v : Int) : IRow g (zs.set x v) (w.setCell ⟨g, x, none⟩ (.int .i64 v)) := by
  have := heap_setCell_same w g x _ 3 (.int .i64 v) h
  unfold IRow
  rw [this]
  simp [List.map_set]

theorem IRow.other {g : Nat} {zs : List Int} {w : World} (h : IRow g zs w) {p : Addr} (hp : g ≠ p.block) (v : Value) : IRow g zs (w.setCell p v) := (Below.heap_setCell w p v g hp).trans h

theorem IRow.below {g : Nat} {zs : List Int} {w w' : World} {B : Nat} (h : IRow g zs w) (hb : Below B w w') (hg : g < B) : IRow g zs w' := (hb.block g hg).trans h

theorem IRow.made {g n : Nat} {B : Nat} {w : World} (h : w.ownsRow B 3 1 (.slice (some ⟨g, 0, none⟩) n n) n (madeCells (Value.int .i64 0).cells (n * 1)).toList) : IRow g (List.replicate n 0) w := by
  have := row_of_owns h
  unfold IRow
  rw [this]
  have e : (madeCells (Value.int .i64 0).cells (n * 1)).toList = List.replicate (n * 1) (Value.int .i64 0) := toList_madeCells_one _ _
  rw [e]
  simp

/-- the three rows of the search; below C nothing has turned -/
structure BW (C gH gS gQ : Nat) (hs szs qs : List Int) (w wr : World) : Prop where
  h : IRow gH hs wr
  s : IRow gS szs wr
  q : IRow gQ qs wr
  bel : Below C w wr

theorem BW.setH {C gH gS gQ : Nat} {hs szs qs : List Int} {w wr : World} (b : BW C gH gS gQ hs szs qs w wr) (h1 : gS ≠ gH) (h2 : gQ ≠ gH) (hC : C ≤ gH) (x : Nat) (v : Int) : BW C gH gS gQ (hs.set x v) szs qs w (wr.setCell ⟨gH, x, none⟩ (.int .i64 v)) :=
  ⟨b.h.set x v, b.s.other h1 _, b.q.other h2 _, b.bel.setCell (p := ⟨gH, x, none⟩) hC _⟩

theorem BW.setS {C gH gS gQ : Nat} {hs szs qs : List Int} {w wr : World} (b : BW C gH gS gQ hs szs qs w wr) (h1 : gH ≠ gS) (h2 : gQ ≠ gS) (hC : C ≤ gS) (x : Nat) (v : Int) : BW C gH gS gQ hs (szs.set x v) qs w (wr.setCell ⟨gS, x, none⟩ (.int .i64 v)) :=
  ⟨b.h.other h1 _, b.s.set x v, b.q.other h2 _, b.bel.setCell (p := ⟨gS, x, none⟩) hC _⟩

theorem BW.setQ {C gH gS gQ : Nat} {hs szs qs : List Int} {w wr : World} (b : BW C gH gS gQ hs szs qs w wr) (h1 : gH ≠ gQ) (h2 : gS ≠ gQ) (hC : C ≤ gQ) (x : Nat) (v : Int) : BW C gH gS gQ hs szs (qs.set x v) w (wr.setCell ⟨gQ, x, none⟩ (.int .i64 v)) :=
  ⟨b.h.other h1 _, b.s.other h2 _, b.q.set x v, b.bel.setCell (p := ⟨gQ, x, none⟩) hC _⟩

/-- the row of heads behind k rounds of its first loop -/
def negTo (n k : Nat) : List Int := List.replicate k (-1) ++ List.replicate (n - k) 0

theorem negTo_len (n k : Nat) (h : k ≤ n) : (negTo n k).length = n := by simp [negTo]; omega

theorem negTo_set (n k : Nat) (h : k < n) : (negTo n k).set k (-1) = negTo n (k + 1) := by
  have e : n - k = (n - (k + 1)) + 1 := by omega
  simp only [negTo]
  rw [e, List.replicate_succ, List.set_append_right _ _ (by simp), List.replicate_succ' (n := k)]
  simp

theorem negTo_out (n : Nat) (es : List (Nat × Nat)) : Out n es 0 (negTo n n) (List.replicate n 0) 0 := by
  have e : negTo n n = List.replicate n (-1) := by simp [negTo]
  have g : ∀ i, i < n → (negTo n n).getD i 0 = -1 := fun i hi => by rw [e]; simp [List.getD, hi]
  refine ⟨by rw [e]; simp, by simp, ?_, fun i hi => by omega, fun i hi h0 => ?_, fun i j hi h0 _ => ?_, fun f _ i hi h0 => ?_, fun i hi h0 => ?_⟩
  · rw [e, List.countP_eq_zero]
    intro a ha
    rw [(List.mem_replicate.1 ha).2]
    decide
  all_goals
    rw [g i hi] at h0
    omega

/-- what componentHeads answers -/
def HeadsEnd (n : Nat) (es : List (Nat × Nat)) (w : World) (e : Ending) (w' : World) : Prop :=
  ∃ gH gS hs szs t, e = .returned (.tuple #[.slice (some ⟨gH, 0, none⟩) n n, .slice (some ⟨gS, 0, none⟩) n n]) ∧ IRow gH hs w' ∧ IRow gS szs w' ∧ Out n es n hs szs t ∧ Below w.heap.size w w'

theorem lay1_eq (L : Nat → List Int) (x y : Nat) (Lx : List Int) (h : L x = Lx) : (fun i => if i = x then Lx ++ [(y : Int)] else L i) = lay1 L x y := by
  funext i
  simp only [lay1, h]

set_option maxRecDepth 100000 in
set_option maxHeartbeats 4000000 in
theorem heads_any (n : Nat) (ua : Option Addr) (ucap : Nat) (G : List (List Int)) (w : World) (hn : n ≤ 4096) (hG : GrRow w ua n G) (hrng : ∀ x, x < n → ∀ t, t < (G.getD x []).length → 0 ≤ (G.getD x []).getD t 0 ∧ (G.getD x []).getD t 0 < n) (hel : (edges G).length ≤ 536870912) (hela : ∀ k j, k < n → (edgesAt G k j).length ≤ 536870912) (hlens : ∀ x, x < n → (G.getD x []).length ≤ 131072)
    (heb : ∀ e ∈ edges G, e.1 < n ∧ e.2 < n) :
    Calls Try.prog 12 #[.int .i64 n, .slice ua n ucap] w fun e w' => HeadsEnd n (edges G) w e w' := by
  obtain ⟨i0, hi, hz0, hz1, hz2⟩ := info_parts Try.info33
  obtain ⟨i3, h3i, h3z0, h3z1, h3z2⟩ := info_parts Try.info3
  have HG : Hid (GrRow w ua n G) := hG
  have HRNG : Hid (∀ x, x < n → ∀ t, t < (G.getD x []).length → 0 ≤ (G.getD x []).getD t 0 ∧ (G.getD x []).getD t 0 < n) := hrng
  have HEL : Hid ((edges G).length ≤ 536870912) := hel
  have HELA : Hid (∀ k j, k < n → (edgesAt G k j).length ≤ 536870912) := hela
  have HLN : Hid (∀ x, x < n → (G.getD x []).length ≤ 131072) := hlens
  have HEB : Hid (∀ e ∈ edges G, e.1 < n ∧ e.2 < n) := heb
  clear hG hrng hel hela hlens heb
  go_enter Try.func12, Try.ntmps12
  go_wp2_with (at_make; refine wpList_make_full _ rfl (.tmp 21) (.tmp 21) 23 rfl w.heap.size 33 i0 (.slice none 0 0) 1 Try.underlying23 hi hz0 hz1 _ _ _ _ n rfl rfl rfl rfl (by rw [hz2]; omega) (by unfold maxLen; omega) (Nat.le_refl _) ?_; intro w1 hown hgrow)
  have hV0 : RV w.heap.size n (adjOf (edgesTo G 0)) w w1 := (RV.init hown ((Below.refl _ _).grown hgrow (Nat.le_refl _) (fun k e => by cases e))).congr (by funext y; simp [adjOf, edgesTo])
  clear hown hgrow
  go_loopw [7] (fun s wr => ∃ k : Nat, k ≤ n ∧ s = .int .i64 k ∧ RV w.heap.size n (adjOf (edgesTo G k)) w wr) (fun s _ => n - (intOf s).toNat)
  case atStart => exact ⟨0, Nat.zero_le _, rfl, hV0⟩
  case round =>
    obtain ⟨k, hk, rfl, hVr⟩ := hrel
    clear hV0
    by_cases hlt : k < n
    · obtain ⟨_, fa, fc, h0, hrow⟩ := HG.out
      obtain ⟨b, o, rfl, hb, hc⟩ := h0.resolve_left (by omega)
      have hck := (hVr.bel.cell (p := ⟨b, o + k, none⟩) hb).trans (hc k hlt)
      have HIN : Hid (IntRow w (fa k) (G.getD k []).length (G.getD k [])) := (hrow k hlt).1
      have hlk := HLN.out k hlt
      obtain ⟨m, HM⟩ : ∃ m, Hid ((G.getD k []).length = m) := ⟨_, rfl⟩
      obtain ⟨fk, HFK⟩ : ∃ fk, Hid (fa k = fk) := ⟨_, rfl⟩
      rw [HM.out] at hck hlk
      rw [HFK.out] at hck
      have hV0 : RV w.heap.size n (adjOf (edgesAt G k 0)) w wr := by rw [edgesAt_zero]; exact hVr
      clear h0 hrow hc hVr
      obtain ⟨wb, rfl⟩ : ∃ wb : World, wb = wr := ⟨_, rfl⟩
      go_wp2_with fail
      go_loopw [33] (fun s wr => ∃ j : Nat, j ≤ m ∧ s = .int .i64 j ∧ RV w.heap.size n (adjOf (edgesAt G k j)) w wr) (fun s _ => m - (intOf s).toNat)
      case atStart => exact ⟨0, Nat.zero_le _, rfl, hV0⟩
      case round =>
        obtain ⟨j, hj, rfl, hVj⟩ := hrel
        clear hV0 hck
        by_cases hltj : j < m
        · obtain ⟨_, hin⟩ := HIN.out
          rw [HFK.out, HM.out] at hin
          obtain ⟨b', o', rfl, hb', hc'⟩ := hin.resolve_left (by omega)
          have hcj := (hVj.bel.cell (p := ⟨b', o' + j, none⟩) hb').trans (hc' j hltj)
          have hzr := HRNG.out k hlt j (by rw [HM.out]; exact hltj)
          have hes := edgesAt_succ G k j (by rw [HM.out]; exact hltj)
          obtain ⟨y, hy⟩ := Int.eq_ofNat_of_zero_le hzr.1
          rw [hy] at hcj hes hzr
          have hyn : y < n := by omega
          rw [Int.toNat_natCast] at hes
          have hle := HELA.out k j hlt
          have hal : ∀ i, (adjOf (edgesAt G k j) i).length ≤ 1073741824 := fun i => by have := adjOf_len (edgesAt G k j) i; omega
          have HAL : Hid (∀ i, (adjOf (edgesAt G k j) i).length ≤ 1073741824) := hal
          have HES : Hid (edgesAt G k (j + 1) = edgesAt G k j ++ [(k, y)]) := hes
          obtain ⟨va, vc, hcy, hoy, hstep⟩ := hVj.at_ k hlt
          have hgl := hVj.lt
          have hlx := hal k
          have HST : Hid (_) := hstep
          obtain ⟨Lx, HLX⟩ : ∃ Lx, Hid (adjOf (edgesAt G k j) k = Lx) := ⟨_, rfl⟩
          rw [HLX.out] at hcy hoy hlx HST
          clear hc' hin hes hy hzr hstep hVj hal
          go_upto_region 9 with (at_builtin; refine wpList_append_own_at _ rfl (.tmp 42) (.tmp 44) 33 rfl (w.heap.size + 1) 3 i3 (.int .i64 0) 1 8 Try.underlying33 h3i h3z0 h3z1 h3z2 rfl (by decide) _ _ _ rfl (hoy.alloc _) ⟨wr.heap.size, 0, none⟩ 1 1 [.int .i64 (y : Int)] rfl rfl (cell_one_new _ _ _) (ints_oneCell .i64 [(y : Int)]) (by unfold maxLen; omega) (by omega) (by simp; omega) ?_; intro v' w5 hown' hgrow hnil hloc; obtain ⟨hcy5, hfy5, hV5⟩ := HST.out _ _ _ _ hown' hgrow hloc; obtain ⟨g5, c5, hv5⟩ := own_shape' hown'; subst hv5; have HV5 : Hid (_) := hV5; clear hV5 hown' hgrow hnil hloc HST hoy hcy)
          have HV6 : Hid (_) := HV5.out.congr (lay1_eq (adjOf (edgesAt G k j)) k y Lx HLX.out)
          clear HV5
          obtain ⟨w6, HW6⟩ : ∃ w6, Hid (w5.setCell ⟨w.heap.size, k, none⟩ (.slice (some ⟨g5, 0, none⟩) (Lx.length + 1) c5) = w6) := ⟨_, rfl⟩
          rw [HW6.out] at HV6 ⊢
          have hV6 := HV6.out
          obtain ⟨va2, vc2, hcy2, hoy2, hstep2⟩ := hV6.at_ y hyn
          have hgl2 := hV6.lt
          have hlx2 := Nat.le_trans (lay1_len (adjOf (edgesAt G k j)) k y y) (Nat.succ_le_succ (HAL.out y))
          have HST2 : Hid (_) := hstep2
          obtain ⟨Ly, HLY⟩ : ∃ Ly, Hid (lay1 (adjOf (edgesAt G k j)) k y y = Ly) := ⟨_, rfl⟩
          rw [HLY.out] at hcy2 hoy2 hlx2 HST2
          clear hstep2 hV6 HV6 HW6 hcy5 hfy5
          go_wp2_with (at_builtin; refine wpList_append_own_at _ rfl (.tmp 52) (.tmp 54) 33 rfl (w.heap.size + 1) 3 i3 (.int .i64 0) 1 8 Try.underlying33 h3i h3z0 h3z1 h3z2 rfl (by decide) _ _ _ rfl (hoy2.alloc _) ⟨w6.heap.size, 0, none⟩ 1 1 [.int .i64 (k : Int)] rfl rfl (cell_one_new _ _ _) (ints_oneCell .i64 [(k : Int)]) (by unfold maxLen; omega) (by omega) (by simp; omega) ?_; intro v7 w7 hown7 hgrow7 hnil7 hloc7; obtain ⟨hcy7, hfy7, hV7⟩ := HST2.out _ _ _ _ hown7 hgrow7 hloc7; obtain ⟨g7, c7, hv7⟩ := own_shape' hown7; subst hv7; have HV7 : Hid (_) := hV7; clear hV7 hown7 hgrow7 hnil7 hloc7 HST2 hoy2 hcy2)
          go_roundw
          case rel => exact ⟨j + 1, by omega, by go_num, RV.congr HV7.out ((lay1_eq (lay1 (adjOf (edgesAt G k j)) k y) y k Ly HLY.out).trans ((adjOf_snoc _ _ _).symm.trans (by rw [HES.out])))⟩
          case measure => simp [intOf]; omega
        · have hall := edgesAt_all G k j (by rw [HM.out]; omega)
          rw [hall] at hVj
          have HVJ : Hid (RV w.heap.size n (adjOf (edgesTo G (k + 1))) w wr) := hVj
          clear hVj hall
          go_wp2
          go_roundw
          case rel => exact ⟨k + 1, by omega, by go_num, HVJ.out⟩
          case measure => simp [intOf]; omega
    · have hkn : n = k := by omega
      subst hkn
      have hed : edgesTo G n = edges G := by rw [edges, HG.out.1]
      rw [hed] at hVr
      obtain ⟨A, HAdef⟩ : ∃ A, Hid (A = (List.range n).map (adjOf (edges G))) := ⟨_, rfl⟩
      have hA : GrRow wr (some ⟨w.heap.size, 0, none⟩) n A := hVr.done (by rw [HAdef.out]; simp) (fun y hy => by rw [HAdef.out]; simp [List.getD, hy])
      have HA : Hid (_) := hA
      have hbA := hVr.bel
      have hal := hVr.lt
      have HBA : Hid (_) := hbA
      clear hVr hA hed hlt hk hbA
      obtain ⟨wA, rfl⟩ : ∃ wA : World, wA = wr := ⟨_, rfl⟩
      go_wp2_with (at_make; refine wpList_make_full _ rfl (.tmp 58) (.tmp 58) 33 rfl wA.heap.size 3 i3 (.int .i64 0) 1 Try.underlying33 h3i h3z0 h3z1 _ _ _ _ n rfl rfl rfl rfl (by rw [h3z2]; omega) (by unfold maxLen; omega) (Nat.le_refl _) ?_; intro w2 hown hgrow)
      have hF0 : IRow wA.heap.size (negTo n 0) w2 := by have := IRow.made hown; simpa [negTo] using this
      have hb0 : Below wA.heap.size wA w2 := (Below.refl _ _).grown hgrow (Nat.le_refl _) (fun k e => by cases e)
      clear hown hgrow
      go_loopw [11] (fun s wr => ∃ k : Nat, k ≤ n ∧ s = .int .i64 k ∧ IRow wA.heap.size (negTo n k) wr ∧ Below wA.heap.size wA wr) (fun s _ => n - (intOf s).toNat)
      case atStart => exact ⟨0, Nat.zero_le _, rfl, hF0, hb0⟩
      case round =>
        obtain ⟨k, hk, rfl, hFr, hbr⟩ := hrel
        clear hF0 hb0
        by_cases hlt : k < n
        · have hck := hFr.cell k (by rw [negTo_len n k hk]; exact hlt)
          have hfz := hFr.frozen k
          have hset := hFr.set k (-1)
          rw [negTo_set n k hlt] at hset
          generalize (negTo n k).getD k 0 = q at hck
          have HSET : Hid (_) := hset
          have HB : Hid (_) := hbr
          clear hset hFr hbr
          go_wp2
          go_roundw
          case rel => exact ⟨k + 1, by omega, by go_num, HSET.out, HB.out.setCell (p := ⟨wA.heap.size, k, none⟩) (Nat.le_refl _) _⟩
          case measure => simp [intOf]; omega
        · have hkn : n = k := by omega
          subst hkn
          have hHl := lt_of_block hFr
          obtain ⟨w3, rfl⟩ : ∃ w3 : World, w3 = wr := ⟨_, rfl⟩
          have HH3 : Hid (_) := hFr
          have HB3 : Hid (_) := hbr
          clear hFr hbr hk hlt
          go_wp2_with (at_make; first | (refine wpList_make_full _ rfl (.tmp 68) (.tmp 68) 33 rfl w3.heap.size 3 i3 (.int .i64 0) 1 Try.underlying33 h3i h3z0 h3z1 _ _ _ _ n rfl rfl rfl rfl (by rw [h3z2]; omega) (by unfold maxLen; omega) (Nat.le_refl _) ?_; intro w4 hown4 hgrow4) | (rename World => w4; refine wpList_make_full _ rfl (.tmp 70) (.tmp 70) 33 rfl w4.heap.size 3 i3 (.int .i64 0) 1 Try.underlying33 h3i h3z0 h3z1 _ _ _ _ n rfl rfl rfl rfl (by rw [h3z2]; omega) (by unfold maxLen; omega) (Nat.le_refl _) ?_; intro w5 hown5 hgrow5))
          have hb4 : Below w3.heap.size w3 w4 := (Below.refl _ _).grown hgrow4 (Nat.le_refl _) (fun k e => by cases e)
          have hb5 : Below w4.heap.size w4 w5 := (Below.refl _ _).grown hgrow5 (Nat.le_refl _) (fun k e => by cases e)
          have hSl : w3.heap.size < w4.heap.size := lt_of_block (row_of_owns hown4)
          have hQl : w4.heap.size < w5.heap.size := lt_of_block (row_of_owns hown5)
          have HBW : Hid (BW wA.heap.size wA.heap.size w3.heap.size w4.heap.size (negTo n n) (List.replicate n 0) (List.replicate n 0) wA w5) :=
            ⟨IRow.below (IRow.below HH3.out hb4 hHl) hb5 (by omega), (IRow.made hown4).below hb5 hSl, IRow.made hown5, (HB3.out.trans (hb4.mono HB3.out.size)).trans (hb5.mono (by omega))⟩
          clear hb4 hb5 hown4 hown5 hgrow4 hgrow5 HH3 HB3
          obtain ⟨gH, hgH⟩ : ∃ gH, wA.heap.size = gH := ⟨_, rfl⟩
          obtain ⟨gS, hgS⟩ : ∃ gS, w3.heap.size = gS := ⟨_, rfl⟩
          obtain ⟨gQ, hgQ⟩ : ∃ gQ, w4.heap.size = gQ := ⟨_, rfl⟩
          rw [hgH, hgS] at hHl
          rw [hgS, hgQ] at hSl
          rw [hgH, hgS, hgQ] at HBW ⊢
          have n1 : gS ≠ gH := by omega
          have n2 : gQ ≠ gH := by omega
          have n3 : gQ ≠ gS := by omega
          have n1' : gH ≠ gS := by omega
          have n2' : gH ≠ gQ := by omega
          have n3' : gS ≠ gQ := by omega
          clear hQl hgS hgQ
          go_loopw [15, 14] (fun s t wr => ∃ (k tl : Nat) (hs szs qs : List Int), k ≤ n ∧ s = .int .i64 k ∧ t = .int .i64 tl ∧ qs.length = n ∧ Out n (edges G) k hs szs tl ∧ BW gH gH gS gQ hs szs qs wA wr) (fun s _ _ => n - (intOf s).toNat)
          case atStart => exact ⟨0, 0, _, _, _, Nat.zero_le _, rfl, rfl, by simp, negTo_out n _, HBW.out⟩
          case round =>
            obtain ⟨k, tl, hs, szs, qs, hk, rfl, rfl, hql, hO, hB⟩ := hrel
            clear HBW
            by_cases hlt : k < n
            · have hck := hB.h.cell k (by rw [hO.lh]; exact hlt)
              have hfk := hB.h.frozen k
              have HO : Hid (Out n (edges G) k hs szs tl) := hO
              have HB : Hid (BW gH gH gS gQ hs szs qs wA wr) := hB
              clear hO hB
              obtain ⟨z, HZ⟩ : ∃ z, Hid (hs.getD k 0 = z) := ⟨_, rfl⟩
              rw [HZ.out] at hck
              by_cases hz : 0 ≤ z
              · clear hfk
                go_wp2
                go_roundw
                case rel => exact ⟨k + 1, tl, hs, szs, qs, by omega, by go_num, by go_num, hql, HO.out.skip (by rw [HZ.out]; exact hz), HB.out⟩
                case measure => simp [intOf]; omega
              · obtain ⟨hIn, htn⟩ := HO.out.begin_ hlt (by rw [HZ.out]; omega) hql
                have hcq := HB.out.q.cell tl (by omega)
                have hfq := HB.out.q.frozen tl
                have hBn := (HB.out.setH n1 n2 (Nat.le_refl _) k k).setQ n2' n3' (by omega) tl k
                have HIN : Hid (_) := hIn
                have HBN : Hid (_) := hBn
                obtain ⟨z', HZ'⟩ : ∃ z', Hid (qs.getD tl 0 = z') := ⟨_, rfl⟩
                rw [HZ'.out] at hcq
                clear hIn hBn HO HB
                go_wp2_with fail
                go_loopw [17, 14] (fun q t wr => ∃ (qn tn : Nat) (hs qs : List Int), q = .int .i64 qn ∧ t = .int .i64 tn ∧ In n (edges G) k tl hs szs qs qn tn ∧ BW gH gH gS gQ hs szs qs wA wr) (fun q _ _ => n - (intOf q).toNat)
                case atStart => exact ⟨tl, tl + 1, _, _, by go_num, by go_num, HIN.out, HBN.out⟩
                case round =>
                  obtain ⟨qn, tn, hs, qs, rfl, rfl, hI, hB⟩ := hrel
                  clear HIN HBN hck hfk hcq hfq HZ HZ' hql
                  rename World => wr
                  have htle : tn ≤ n := by
                    have h1 := hI.cnt
                    have h2 := hI.lh
                    have h3 := List.countP_le_length (p := vis) (l := hs)
                    omega
                  by_cases hqt : qn < tn
                  · obtain ⟨i, hqi, hin, hsi⟩ := hI.que qn hI.sq.1 hqt
                    have hcq := hB.q.cell qn (by rw [hI.lq]; omega)
                    rw [hqi] at hcq
                    obtain ⟨_, fa, fc, h0, hrow⟩ := HA.out
                    obtain ⟨b, o, hbo, hb, hc⟩ := h0.resolve_left (by omega)
                    injection hbo with hbo
                    injection hbo with hb1 ho1 _
                    subst hb1
                    subst ho1
                    rw [hgH] at hb
                    have hci := (hB.bel.cell (p := ⟨w.heap.size, 0 + i, none⟩) hb).trans (hc i hin)
                    have HRW : Hid (IntRow wA (fa i) (A.getD i []).length (A.getD i [])) := (hrow i hin).1
                    have hAi : A.getD i [] = adjOf (edges G) i := by rw [HAdef.out]; simp [List.getD, hin]
                    rw [hAi] at HRW hci
                    have hlen := adjOf_len (edges G) i
                    have hel := HEL.out
                    obtain ⟨Ai, HAI⟩ : ∃ Ai, Hid (adjOf (edges G) i = Ai) := ⟨_, rfl⟩
                    rw [HAI.out] at HRW hci hlen
                    obtain ⟨m, HM⟩ : ∃ m, Hid (Ai.length = m) := ⟨_, rfl⟩
                    obtain ⟨fk, HFK⟩ : ∃ fk, Hid (fa i = fk) := ⟨_, rfl⟩
                    rw [HM.out] at HRW hci hlen
                    rw [HFK.out] at HRW hci
                    have hm : m ≤ 1073741824 := by omega
                    have HI : Hid (In n (edges G) k tl hs szs qs qn tn) := hI
                    have HB : Hid (BW gH gH gS gQ hs szs qs wA wr) := hB
                    have HQI : Hid (qs.getD qn 0 = (i : Int)) := hqi
                    have HSI : Hid (hs.getD i 0 = (k : Int)) := hsi
                    clear h0 hrow hc hI hB hAi hqi hsi hlen hel
                    simp only [Nat.zero_add] at hci
                    go_wp2_with fail
                    go_loopw [108, 14] (fun vj t wr => ∃ (j tn : Nat) (hs qs : List Int), j ≤ m ∧ vj = .int .i64 j ∧ t = .int .i64 tn ∧ In n (edges G) k tl hs szs qs qn tn ∧ (qn < tn ∧ qs.getD qn 0 = (i : Int) ∧ hs.getD i 0 = (k : Int) ∧ ∀ j', j' < j → hs.getD (Ai.getD j' 0).toNat 0 = (k : Int)) ∧ BW gH gH gS gQ hs szs qs wA wr) (fun vj _ _ => m - (intOf vj).toNat)
                    case atStart => exact ⟨0, tn, hs, qs, Nat.zero_le _, by go_num, by go_num, HI.out, ⟨hqt, HQI.out, HSI.out, fun j' h => by omega⟩, HB.out⟩
                    case round =>
                      clear HI HB HQI HSI hcq hci hqt htle
                      obtain ⟨j, tn, hs, qs, hj, rfl, rfl, hI, ⟨hqt, hqi, hsi, hall⟩, hB⟩ := hrel
                      have hIl := hI.lh
                      by_cases hltj : j < m
                      · obtain ⟨_, hrw⟩ := HRW.out
                        obtain ⟨b', o', rfl, hb', hc'⟩ := hrw.resolve_left (by omega)
                        have hcj := (hB.bel.cell (p := ⟨b', o' + j, none⟩) (by rw [← hgH]; exact hb')).trans (hc' j hltj)
                        have hmem : Ai.getD j 0 ∈ adjOf (edges G) i := by
                          have hj' : j < Ai.length := by rw [HM.out]; exact hltj
                          rw [HAI.out, List.getD_eq_getElem?_getD, List.getElem?_eq_getElem hj']
                          exact List.getElem_mem hj'
                        obtain ⟨y, hy, hadj⟩ := (adjOf_nbr (edges G)).out i _ hmem
                        have hyn : y < n := hadj.elim (fun h => (HEB.out _ h).2) (fun h => (HEB.out _ h).1)
                        rw [hy] at hcj
                        have hch := hB.h.cell y (by rw [hI.lh]; exact hyn)
                        have hfh := hB.h.frozen y
                        obtain ⟨z, HZ⟩ : ∃ z, Hid (hs.getD y 0 = z) := ⟨_, rfl⟩
                        rw [HZ.out] at hch
                        have HI : Hid (In n (edges G) k tl hs szs qs qn tn) := hI
                        have HB : Hid (BW gH gH gS gQ hs szs qs wA wr) := hB
                        have HALL : Hid (∀ j', j' < j → hs.getD (Ai.getD j' 0).toNat 0 = (k : Int)) := hall
                        have HY : Hid (Ai.getD j 0 = (y : Int)) := hy
                        have HQI : Hid (qs.getD qn 0 = (i : Int)) := hqi
                        have HSI : Hid (hs.getD i 0 = (k : Int)) := hsi
                        have HAD : Hid (Adj (edges G) i y) := hadj
                        clear hrw hc' hmem hI hB hall hy hqi hsi hadj
                        by_cases hz : z < 0
                        · obtain ⟨hIn, htn⟩ := HI.out.add i y hyn hin HSI.out HAD.out (by rw [HZ.out]; exact hz)
                          have hcq := HB.out.q.cell tn (by rw [HI.out.lq]; exact htn)
                          have hfq := HB.out.q.frozen tn
                          have hBn := (HB.out.setH n1 n2 (Nat.le_refl _) y k).setQ n2' n3' (by omega) tn y
                          have HIN : Hid (_) := hIn
                          have HBN : Hid (_) := hBn
                          have HLQ : Hid (qs.length = n) := HI.out.lq
                          obtain ⟨z', HZ'⟩ : ∃ z', Hid (qs.getD tn 0 = z') := ⟨_, rfl⟩
                          rw [HZ'.out] at hcq
                          clear hIn hBn HI HB
                          go_wp2_with fail
                          go_roundw
                          case rel =>
                            refine ⟨j + 1, tn + 1, _, _, by omega, by go_num, by go_num, HIN.out, ⟨by omega, ?_, ?_, fun j' hj' => ?_⟩, HBN.out⟩
                            · rw [getDI_set _ _ _ _ (by rw [HLQ.out]; exact htn), if_neg (by omega)]; exact HQI.out
                            · rw [getDI_set _ _ _ _ (by omega)]
                              split
                              · rfl
                              · exact HSI.out
                            · rw [getDI_set _ _ _ _ (by omega)]
                              split
                              · rfl
                              · rename_i hne
                                by_cases hjj : j' = j
                                · subst hjj
                                  rw [HY.out] at hne
                                  exact absurd (Int.toNat_natCast y) hne
                                · exact HALL.out j' (by omega)
                          case measure => simp [intOf]; omega
                        · clear hfh
                          go_wp2_with fail
                          go_roundw
                          case rel =>
                            refine ⟨j + 1, tn, hs, qs, by omega, by go_num, by go_num, HI.out, ⟨hqt, HQI.out, HSI.out, fun j' hj' => ?_⟩, HB.out⟩
                            by_cases hjj : j' = j
                            · subst hjj
                              rw [HY.out, Int.toNat_natCast]
                              exact HI.out.same i y hyn HSI.out HAD.out (by rw [HZ.out]; omega)
                            · exact HALL.out j' (by omega)
                          case measure => simp [intOf]; omega
                      · have htle : tn ≤ n := by
                          have h1 := hI.cnt
                          have h3 := List.countP_le_length (p := vis) (l := hs)
                          omega
                        have hIt := hI.took hqt (by
                          rw [hqi, Int.toNat_natCast]
                          intro u hu
                          have h1 := (adjOf_nbr (edges G)).into i u hu
                          rw [HAI.out] at h1
                          obtain ⟨j', hj', he⟩ := List.getElem_of_mem h1
                          have h2 := hall j' (by have := HM.out; omega)
                          have he2 : Ai.getD j' 0 = (u : Int) := by rw [List.getD_eq_getElem?_getD, List.getElem?_eq_getElem hj', he]; rfl
                          rw [he2, Int.toNat_natCast] at h2
                          exact h2)
                        have HIN : Hid (_) := hIt
                        have HB : Hid (BW gH gH gS gQ hs szs qs wA wr) := hB
                        clear hIt hI hB hall hqi hsi
                        go_wp2_with fail
                        go_roundw
                        case rel => exact ⟨qn + 1, tn, hs, qs, by go_num, by go_num, HIN.out, HB.out⟩
                        case measure => simp [intOf]; omega
                  · have hqe : qn = tn := by have := hI.sq.2; omega
                    subst hqe
                    have hE := hI.end_
                    have hle := hI.own
                    have hcs := hB.s.cell k (by rw [hI.lz]; exact hlt)
                    have hfs := hB.s.frozen k
                    have hBn := hB.setS n1' n3 (by omega) k ((qn : Int) - (tl : Int))
                    have HE : Hid (_) := hE
                    have HBN : Hid (_) := hBn
                    have HLQ : Hid (qs.length = n) := hI.lq
                    obtain ⟨z', HZ'⟩ : ∃ z', Hid (szs.getD k 0 = z') := ⟨_, rfl⟩
                    rw [HZ'.out] at hcs
                    clear hE hBn hI hB
                    go_wp2_with fail
                    go_roundw
                    case rel => exact ⟨k + 1, qn, hs, _, qs, by omega, by go_num, by go_num, HLQ.out, HE.out, HBN.out⟩
                    case measure => simp [intOf]; omega
            · have hkn : n = k := by omega
              subst hkn
              have HO : Hid (Out n (edges G) n hs szs tl) := hO
              have HB : Hid (BW gH gH gS gQ hs szs qs wA wr) := hB
              clear hO hB
              go_wp2_with fail
              go_ret2
              exact ⟨gH, gS, hs, szs, tl, rfl, HB.out.h, HB.out.s, HO.out, HBA.out.trans (HB.out.bel.mono (by omega))⟩

end Go.Proofs.Qxb6615643a
