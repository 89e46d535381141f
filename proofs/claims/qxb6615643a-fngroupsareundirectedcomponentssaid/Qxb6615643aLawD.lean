import Derived.Test.Qxb6615643aGroups
import Derived.Test.Qxb6615643aFits
import Derived.Test.Qxb6615643aRev
namespace Go.Proofs.Qxb6615643a
open Go.RowKit Go.Maps
set_option linter.unusedVariables false

def GoodD (w : World) (e : Ending) (w' : World) : Prop := e = .returned (.bool true) ∧ Below w.heap.size w w'

theorem OM.below {b N : Nat} {D : DataW Unit} {w w' : World} {B : Nat} (h : OM b N D w) (hb : Below B w w') (hl : b < B) : OM b N D w' := by
  obtain ⟨es, clock, h1, h2⟩ := h
  exact ⟨es, clock, (hb.block b hl).trans h1, h2⟩

theorem OM.lt {b N : Nat} {D : DataW Unit} {w : World} (h : OM b N D w) : b < w.heap.size := World.ownsMap.lt h

theorem edges_le (G : List (List Int)) (n : Nat) (hl : ∀ x, x < n → (G.getD x []).length ≤ 131072) : ∀ k, k ≤ n → (edgesTo G k).length ≤ k * 131072 := by
  intro k
  induction k with
  | zero => intro _; simp [edgesTo]
  | succ k ih =>
    intro hk
    have h1 := ih (by omega)
    have h2 := hl k (by omega)
    have e : edgesTo G (k + 1) = edgesTo G k ++ rowEdges k (G.getD k []) := by simp [edgesTo, List.range_succ, List.flatMap_append]
    rw [e, List.length_append]
    have e2 : (rowEdges k (G.getD k [])).length = (G.getD k []).length := by simp [rowEdges]
    omega

theorem edgesAt_le (G : List (List Int)) (n k j : Nat) (hl : ∀ x, x < n → (G.getD x []).length ≤ 131072) (hk : k < n) (hn : n ≤ 4096) : (edgesAt G k j).length ≤ 536870912 := by
  have h1 := edges_le G n hl k (by omega)
  have h2 := hl k hk
  rw [edgesAt, List.length_append]
  have e2 : (rowEdges k ((G.getD k []).take j)).length ≤ (G.getD k []).length := by simp [rowEdges]; omega
  omega

theorem into_step (es es' : List (Nat × Nat)) (k y : Nat) (Ly : List Int) (he : es' = es ++ [(k, y)]) (hL : into es y = Ly) : (fun i => if i = y then Ly ++ [(k : Int)] else into es i) = into es' := by
  funext i
  subst he
  by_cases h : i = y
  · subst h
    rw [if_pos rfl, into_snoc_same, hL]
  · rw [if_neg h, into_snoc_other _ _ _ _ (fun e => h e.symm)]

theorem edge_bounds (G : List (List Int)) (n : Nat) (hG : G.length = n) (hr : ∀ x, x < n → ∀ t, t < (G.getD x []).length → 0 ≤ (G.getD x []).getD t 0 ∧ (G.getD x []).getD t 0 < n) : ∀ e ∈ edges G, e.1 < n ∧ e.2 < n := by
  intro e he
  rw [edges, mem_edgesTo, hG] at he
  obtain ⟨h1, z, hz, h2⟩ := he
  obtain ⟨t, ht, hzt⟩ := List.getElem_of_mem hz
  have := hr e.1 h1 t ht
  have e1 : (G.getD e.1 []).getD t 0 = z := by rw [List.getD_eq_getElem?_getD, List.getElem?_eq_getElem ht, ← hzt]; rfl
  rw [e1] at this
  exact ⟨h1, by omega⟩

theorem rng_mem {G : List (List Int)} {n : Nat} (hr : ∀ x, x < n → ∀ t, t < (G.getD x []).length → 0 ≤ (G.getD x []).getD t 0 ∧ (G.getD x []).getD t 0 < n) : ∀ x, x < n → ∀ z ∈ G.getD x [], 0 ≤ z ∧ z < n := by
  intro x hx z hz
  obtain ⟨t, ht, hzt⟩ := List.getElem_of_mem hz
  have := hr x hx t ht
  have e1 : (G.getD x []).getD t 0 = z := by rw [List.getD_eq_getElem?_getD, List.getElem?_eq_getElem ht, ← hzt]; rfl
  rw [e1] at this
  exact this

theorem rev_mem {es : List (Nat × Nat)} {n : Nat} (hes : ∀ e ∈ es, e.1 < n ∧ e.2 < n) : ∀ x, x < n → ∀ z ∈ (reversed n es).getD x [], 0 ≤ z ∧ z < n := by
  intro x hx z hz
  rw [reversed_getD n es x hx] at hz
  simp only [into, List.mem_map, List.mem_filter] at hz
  obtain ⟨e, ⟨he1, _⟩, rfl⟩ := hz
  have := (hes e he1).1
  omega

theorem ent_B {w5 w6 : World} {a5 : Option Addr} {n : Nat} {ss : List ByteArray} (h : EntRow w5 a5 n ss) (hb : Below w5.heap.size w5 w6) :
    ss.length = n ∧ (n = 0 ∨ ∃ b o, a5 = some ⟨b, o, none⟩ ∧ b < w5.heap.size ∧ ∀ i, i < n → w6.cell? ⟨b, o + i * 4, none⟩ = some (.string (ss.getD i ByteArray.empty))) := by
  obtain ⟨hz, h0 | ⟨b, o, rfl, hlt, hc⟩⟩ := h
  · exact ⟨hz, .inl h0⟩
  · exact ⟨hz, .inr ⟨b, o, rfl, hlt, fun i hi => (hb.cell (p := ⟨b, o + i * 4, none⟩) hlt).trans (hc i hi)⟩⟩

/-- both ends of an edge, and their head, in the map -/
theorem edge_facts (ss : List ByteArray) (G : List (List Int)) (n : Nat) (hd : ∀ i j, i < j → j < n → ss.getD i ByteArray.empty ≠ ss.getD j ByteArray.empty) (x y : Nat) (hx : x < n) (hy : y < n) (he : (x, y) ∈ edges G) (hne : x ≠ y) :
    ∃ f, f < n ∧ (∀ i, i = x ∨ i = y ∨ i = f → Maps.has (mapD ss (roots (edges G)) n) (key (ss.getD i ByteArray.empty)) = true ∧ ∀ z, (mapD ss (roots (edges G)) n).atKey (key (ss.getD i ByteArray.empty)) z = val (ss.getD f ByteArray.empty)) := by
  have g := roots_good (edges G)
  have hxy : roots (edges G) x = roots (edges G) y := g.edge (x, y) he
  have hdd : ∀ i j, i < n → j < n → ss.getD i ByteArray.empty = ss.getD j ByteArray.empty → i = j := by
    intro i j hi hj h
    rcases Nat.lt_trichotomy i j with h1 | h1 | h1
    · exact absurd h (hd i j h1 hj)
    · exact h1
    · exact absurd h.symm (hd j i h1 hi)
  have sp := mapD_spec ss (roots (edges G)) n hdd g.le g.idem n (Nat.le_refl _)
  have hfl := g.le x
  have hidem := g.idem x
  generalize roots (edges G) = r at *
  have hex : ∃ z, z < n ∧ r z ≠ z ∧ r z = r x := by
    by_cases h : r x = x
    · exact ⟨y, hy, by omega, hxy.symm⟩
    · exact ⟨x, hx, h, rfl⟩
  refine ⟨r x, by omega, fun i hi => ?_⟩
  have hin : i < n := by omega
  have hri : r i = r x := by
    rcases hi with rfl | rfl | rfl
    · rfl
    · exact hxy.symm
    · exact hidem
  obtain ⟨h1, h2⟩ := sp i hin
  have hh : Maps.has (mapD ss r n) (key (ss.getD i ByteArray.empty)) = true := by
    rw [h1]
    by_cases h : r i = i
    · obtain ⟨z, hz, hz1, hz2⟩ := hex
      exact ⟨z, hz, hz1, .inr (by rw [hz2, ← hri, h])⟩
    · exact ⟨i, hin, h, .inl rfl⟩
  refine ⟨hh, fun z => ?_⟩
  rw [h2 hh z, hri]

theorem look_val {b N : Nat} {D : DataW Unit} {w : World} (h : OM b N D w) (s t : ByteArray) (hs : s.size ≤ maxLen) (hh : Maps.has D (key s) = true) (hv : ∀ z, D.atKey (key s) z = val t) :
    (Instr.lookup 27 (.map (some b)) (.string s) true).run Try.prog w = .ok (.tuple #[.string t, .bool true]) w := by
  obtain ⟨t', hr, hv'⟩ := h.look s hs
  have : t' = t := val_inj (hv'.symm.trans (hv _))
  rw [hr, hh, this]

theorem own_shape {w : World} {B n : Nat} {v : Value} {xs : List Value} (h : w.ownsRow B 3 1 v (n + 1) xs) : ∃ g c, v = .slice (some ⟨g, 0, none⟩) (n + 1) c := by
  rcases h.2 with ⟨_, h0⟩ | ⟨g', cap', cur, h', _⟩
  · omega
  · exact ⟨g', cap', h'⟩

set_option maxRecDepth 100000 in
set_option maxHeartbeats 4000000 in
theorem lawD_any (a : Option Addr) (len cap : Nat) (ss : List ByteArray) (a1 : Option Addr) (len1 cap1 : Nat) (G : List (List Int)) (w : World) (hs : StrRow w a len ss) (hg : GrRow w a1 len1 G) (hn : a = none → len = 0) (hn1 : a1 = none → len1 = 0) (hss : ∀ i, (ss.getD i ByteArray.empty).size ≤ maxLen)
    (hm : len ≤ 9223372036854775807) (hm1 : len1 ≤ 9223372036854775807) :
    Calls Try.prog 4 #[.slice a len cap, .slice a1 len1 cap1] w fun e w' => GoodD w e w' := by
  obtain ⟨i0, hi, hz0, hz1, hz2⟩ := info_parts Try.info33
  obtain ⟨i3, h3i, h3z0, h3z1, h3z2⟩ := info_parts Try.info3
  have HSS : Hid (∀ i, (ss.getD i ByteArray.empty).size ≤ maxLen) := hss
  clear hss
  go_enter Try.func4, Try.ntmps4
  go_wp2_with fail
  refine (zzB_any _ _ _ ss _ _ _ G _ hs hg hm hm1).mono ?_
  rintro e w0 ⟨b0, rfl, rfl⟩
  cases b0 with
  | false =>
    clear hs hg
    go_wp2
    go_ret
    exact ⟨rfl, Below.refl _ _⟩
  | true =>
    go_wp2_with fail
    refine (fits_any _ _ _ ss _ _ _ G _ hs hg hm hm1).mono ?_
    rintro e w1 ⟨b1, rfl, hb1, hfit⟩
    cases b1 with
    | false =>
      clear hs hg hfit
      go_wp2
      go_ret
      exact ⟨rfl, hb1⟩
    | true =>
      have hF := hfit rfl
      have he := hF.eq
      subst he
      have HF : Hid (Fits len1 len1 ss G) := hF
      have hn4 := hF.n4
      have hs1 := hs.below hb1
      have hg1 := hg.below hb1
      clear hF hfit hs hg
      go_wp2_with fail
      refine (cloneStrings_any _ _ _ ss _ hs1 hn (by omega)).mono ?_
      rintro e w2 ⟨a2, cap2, rfl, hn2, hs2, hb2⟩
      have hg2 := hg1.below hb2
      have hb02 := hb1.trans (hb2.mono hb1.size)
      clear hs1 hg1 hb1 hb2 hn
      go_wp2_with fail
      refine (cloneGraph_any _ _ _ G _ hg2 hn1 (by omega) (fun i hi => Nat.le_trans (HF.out.lens i hi) (by omega))).mono ?_
      rintro e w3 ⟨a3, cap3, rfl, hn3, hg3, hb3⟩
      have hs3 := hs2.below hb3
      have hb03 := hb02.trans (hb3.mono hb02.size)
      have HS3 : Hid (StrRow w3 a2 len1 ss) := hs3
      have HG3 : Hid (GrRow w3 a3 len1 G) := hg3
      clear hs2 hg2 hb02 hb3 hn1 hs3 hg3
      go_wp2_with (at_make; refine wpList_make_full _ rfl (.tmp 40) (.tmp 40) 23 rfl w3.heap.size 33 i0 (.slice none 0 0) 1 Try.underlying23 hi hz0 hz1 _ _ _ _ len1 rfl rfl rfl rfl (by rw [hz2]; omega) (by unfold maxLen; omega) (Nat.le_refl _) ?_; intro w4 hown hgrow)
      have hV0 : RV w3.heap.size len1 (into (edgesTo G 0)) w3 w4 := (RV.init hown ((Below.refl _ _).grown hgrow (Nat.le_refl _) (fun k e => by cases e))).congr (by funext y; simp [into, edgesTo])
      clear hown hgrow
      go_loopw [7] (fun s wr => ∃ k : Nat, k ≤ len1 ∧ s = .int .i64 k ∧ RV w3.heap.size len1 (into (edgesTo G k)) w3 wr) (fun s _ => len1 - (intOf s).toNat)
      case atStart => exact ⟨0, Nat.zero_le _, rfl, hV0⟩
      case round =>
        obtain ⟨k, hk, rfl, hVr⟩ := hrel
        clear hV0
        by_cases hlt : k < len1
        · obtain ⟨_, fa, fc, h0, hrow⟩ := HG3.out
          obtain ⟨b, o, rfl, hb, hc⟩ := h0.resolve_left (by omega)
          have hck := (hVr.bel.cell (p := ⟨b, o + k, none⟩) hb).trans (hc k hlt)
          have HIN : Hid (IntRow w3 (fa k) (G.getD k []).length (G.getD k [])) := (hrow k hlt).1
          have hlk := HF.out.lens k hlt
          obtain ⟨m, HM⟩ : ∃ m, Hid ((G.getD k []).length = m) := ⟨_, rfl⟩
          obtain ⟨fk, HFK⟩ : ∃ fk, Hid (fa k = fk) := ⟨_, rfl⟩
          rw [HM.out] at hck hlk
          rw [HFK.out] at hck
          have hV0 : RV w3.heap.size len1 (into (edgesAt G k 0)) w3 wr := by rw [edgesAt_zero]; exact hVr
          clear h0 hrow hc hVr
          obtain ⟨wb, rfl⟩ : ∃ wb : World, wb = wr := ⟨_, rfl⟩
          go_wp2_with fail
          go_loopw [52] (fun s wr => ∃ j : Nat, j ≤ m ∧ s = .int .i64 j ∧ RV w3.heap.size len1 (into (edgesAt G k j)) w3 wr) (fun s _ => m - (intOf s).toNat)
          case atStart => exact ⟨0, Nat.zero_le _, rfl, hV0⟩
          case round =>
            obtain ⟨j, hj, rfl, hVj⟩ := hrel
            clear hV0 hck
            by_cases hltj : j < m
            · obtain ⟨_, hin⟩ := HIN.out
              rw [HFK.out, HM.out] at hin
              obtain ⟨b', o', rfl, hb', hc'⟩ := hin.resolve_left (by omega)
              have hcj := (hVj.bel.cell (p := ⟨b', o' + j, none⟩) hb').trans (hc' j hltj)
              have hzr := HF.out.rng k hlt j (by rw [HM.out]; exact hltj)
              have hes := edgesAt_succ G k j (by rw [HM.out]; exact hltj)
              obtain ⟨y, hy⟩ := Int.eq_ofNat_of_zero_le hzr.1
              rw [hy] at hcj hes hzr
              have hyn : y < len1 := by omega
              rw [Int.toNat_natCast] at hes
              have hle := edgesAt_le G len1 k j (fun x hx => HF.out.lens x hx) hlt hn4
              have hil := into_length (edgesAt G k j) y
              have HES : Hid (edgesAt G k (j + 1) = edgesAt G k j ++ [(k, y)]) := hes
              obtain ⟨va, vc, hcy, hoy, hstep⟩ := hVj.at_ y hyn
              have hgl := hVj.lt
              have HST : Hid (_) := hstep
              obtain ⟨Ly, HLY⟩ : ∃ Ly, Hid (into (edgesAt G k j) y = Ly) := ⟨_, rfl⟩
              rw [HLY.out] at hcy hoy hil HST
              clear hc' hin hes hy hzr hstep hVj
              go_wp2_with (at_builtin; refine wpList_append_own_at _ rfl (.tmp 61) (.tmp 63) 33 rfl (w3.heap.size + 1) 3 i3 (.int .i64 0) 1 8 Try.underlying33 h3i h3z0 h3z1 h3z2 rfl (by decide) _ _ _ rfl (hoy.alloc _) ⟨wr.heap.size, 0, none⟩ 1 1 [.int .i64 (k : Int)] rfl rfl (cell_one_new _ _ _) (ints_oneCell .i64 [(k : Int)]) (by unfold maxLen; omega) (by omega) (by simp; omega) ?_; intro v' w5 hown' hgrow hnil hloc; obtain ⟨hcy5, hfy5, hV5⟩ := HST.out _ _ _ _ hown' hgrow hloc; obtain ⟨g5, c5, hv5⟩ := own_shape hown'; subst hv5; have HV5 : Hid (_) := hV5; clear hV5 hown' hgrow hnil hloc HST hoy hcy)
              go_roundw
              case rel => exact ⟨j + 1, by omega, by go_num, RV.congr HV5.out (into_step _ _ k y Ly HES.out HLY.out)⟩
              case measure => simp [intOf]; omega
            · have hall := edgesAt_all G k j (by rw [HM.out]; omega)
              rw [hall] at hVj
              have HVJ : Hid (RV w3.heap.size len1 (into (edgesTo G (k + 1))) w3 wr) := hVj
              clear hVj hall
              go_wp2
              go_roundw
              case rel => exact ⟨k + 1, by omega, by go_num, HVJ.out⟩
              case measure => simp [intOf]; omega
        · have hkn : len1 = k := by omega
          subst hkn
          have hed : edgesTo G len1 = edges G := by rw [edges, HG3.out.1]
          rw [hed] at hVr
          have hg4 : GrRow wr (some ⟨w3.heap.size, 0, none⟩) len1 (reversed len1 (edges G)) := hVr.done (by simp [reversed]) (fun y hy => reversed_getD _ _ y hy)
          have hb4 := hVr.bel
          have hb04 := hb03.trans (hb4.mono hb03.size)
          have HS4 : Hid (StrRow wr a2 len1 ss) := HS3.out.below hb4
          have HG4 : Hid (GrRow wr a3 len1 G) := HG3.out.below hb4
          have HR4 : Hid (GrRow wr (some ⟨w3.heap.size, 0, none⟩) len1 (reversed len1 (edges G))) := hg4
          have HEB : Hid (∀ e ∈ edges G, e.1 < len1 ∧ e.2 < len1) := edge_bounds G len1 HG3.out.1 HF.out.rng
          clear hVr hg4 hb4 hb03 hed HS3 HG3 hlt hk
          obtain ⟨w4', rfl⟩ : ∃ w4' : World, w4' = wr := ⟨_, rfl⟩
          go_wp2_with fail
          refine (entitiesOf_any _ _ _ ss _ HS4.out (by omega)).mono ?_
          rintro e w5 ⟨a5, cap5, rfl, hE5, hb5⟩
          have HG5 : Hid (GrRow w5 a3 len1 G) := HG4.out.below hb5
          have HE5 : Hid (EntRow w5 a5 len1 ss) := hE5
          clear hE5
          go_wp2_with fail
          refine (newDay_any _ _ _ _ _ _ (by omega)).mono ?_
          rintro e w6 ⟨d6, st6, rg6, cg6, ha6, hc6, rfl, hD6, hb6, hst6, hsd6, hsr6, hsc6⟩
          have HG6 : Hid (GrRow w6 a3 len1 G) := HG5.out.below hb6
          have HD6 : Hid (DayOK d6 st6 rg6 cg6 a5 cap5 ha6 hc6 a3 cap3 len1 (.map none) w6) := hD6
          clear hD6
          go_wp2_with fail
          refine (groups_any w5.heap.size d6 st6 rg6 cg6 a5 cap5 ha6 hc6 a3 cap3 len1 ss G _ HD6.out hst6 hb6.size hn4 HG6.out (rng_mem HF.out.rng) (fun x hx => Nat.le_trans (HF.out.lens x hx) (by omega)) (ent_B HE5.out hb6) HSS.out hsd6 hsr6 hsc6).mono ?_
          rintro e w7 ⟨bm1, rfl, hO7, hb7, hbm7⟩
          have hb57 : Below w5.heap.size w5 w7 := hb6.trans hb7
          have hb47 := hb5.trans (hb57.mono hb5.size)
          have HO7 : Hid (OM bm1 (2 * len1) (mapD ss (roots (edges G)) len1) w7) := hO7
          have HS7 : Hid (StrRow w7 a2 len1 ss) := HS4.out.below hb47
          have HR7 : Hid (GrRow w7 (some ⟨w3.heap.size, 0, none⟩) len1 (reversed len1 (edges G))) := HR4.out.below hb47
          have HG7 : Hid (GrRow w7 a3 len1 G) := HG4.out.below hb47
          have hb07 := hb04.trans (hb47.mono hb04.size)
          clear hO7 hb7 hb57 hb47 hb5 hb6 HG5 HE5 HG6 HD6 HS4 HG4 HR4 hb04 hst6 hsd6 hsr6 hsc6 hbm7
          go_wp2_with fail
          refine (entitiesOf_any _ _ _ ss _ HS7.out (by omega)).mono ?_
          rintro e w8 ⟨a8, cap8, rfl, hE8, hb8⟩
          have HE8 : Hid (EntRow w8 a8 len1 ss) := hE8
          have HR8 : Hid (GrRow w8 (some ⟨w3.heap.size, 0, none⟩) len1 (reversed len1 (edges G))) := HR7.out.below hb8
          clear hE8
          go_wp2_with fail
          refine (newDay_any _ _ _ _ _ _ (by omega)).mono ?_
          rintro e w9 ⟨d9, st9, rg9, cg9, ha9, hc9, rfl, hD9, hb9, hst9, hsd9, hsr9, hsc9⟩
          have HR9 : Hid (GrRow w9 (some ⟨w3.heap.size, 0, none⟩) len1 (reversed len1 (edges G))) := HR8.out.below hb9
          have HD9 : Hid (DayOK d9 st9 rg9 cg9 a8 cap8 ha9 hc9 (some ⟨w3.heap.size, 0, none⟩) len1 len1 (.map none) w9) := hD9
          clear hD9
          have hel := edges_le G len1 (fun x hx => HF.out.lens x hx) len1 (Nat.le_refl _)
          have hel2 : (edges G).length ≤ 536870912 := by rw [edges, HG7.out.1]; omega
          have HEL : Hid ((edges G).length ≤ 536870912) := hel2
          clear hel hel2
          go_wp2_with fail
          refine (groups_any w8.heap.size d9 st9 rg9 cg9 a8 cap8 ha9 hc9 (some ⟨w3.heap.size, 0, none⟩) len1 len1 ss (reversed len1 (edges G)) _ HD9.out hst9 hb9.size hn4 HR9.out (rev_mem HEB.out) (fun x hx => by rw [reversed_getD _ _ x hx]; have := into_length (edges G) x; have := HEL.out; omega) (ent_B HE8.out hb9) HSS.out hsd9 hsr9 hsc9).mono ?_
          rintro e w10 ⟨bm2, rfl, hO10, hb10, hbm10⟩
          have hb810 : Below w8.heap.size w8 w10 := hb9.trans hb10
          have hb710 := hb8.trans (hb810.mono hb8.size)
          have hD2 : mapD ss (roots (edges (reversed len1 (edges G)))) len1 = mapD ss (roots (edges G)) len1 := (mapD_congr ss _ _ len1 (roots_reversed len1 (edges G) HEB.out)).symm
          rw [hD2] at hO10
          have HM2 : Hid (OM bm2 (2 * len1) (mapD ss (roots (edges G)) len1) w10) := hO10
          have HM1 : Hid (OM bm1 (2 * len1) (mapD ss (roots (edges G)) len1) w10) := HO7.out.below hb710 HO7.out.lt
          have HS10 : Hid (StrRow w10 a2 len1 ss) := HS7.out.below hb710
          have HG10 : Hid (GrRow w10 a3 len1 G) := HG7.out.below hb710
          have hb010 := hb07.trans (hb710.mono hb07.size)
          clear hO10 hb10 hb810 hb710 hb8 hb9 HE8 HR8 HR9 HD9 HO7 HS7 HR7 HG7 hb07 hst9 hsd9 hsr9 hsc9 hbm10 hD2 HEL
          go_wp2_with (at_len; first | refine wpList_len_own _ rfl (.tmp 77) 27 rfl 9 9 Try.underlying27 _ bm1 (2 * len1) _ rfl HM1.out ?_ | refine wpList_len_own _ rfl (.tmp 79) 27 rfl 9 9 Try.underlying27 _ bm2 (2 * len1) _ rfl HM2.out ?_)
          go_loop [12] (fun s => ∃ k : Nat, k ≤ len1 ∧ s = .int .i64 k) (fun s => len1 - (intOf s).toNat)
          case atStart => exact ⟨0, Nat.zero_le _, rfl⟩
          case round =>
            obtain ⟨k, hk, rfl⟩ := hrel
            by_cases hlt : k < len1
            · obtain ⟨b, o, rfl, hb, hc⟩ := HS10.out.2.resolve_left (by omega)
              have hck := hc k hlt
              have hsk := HSS.out k
              obtain ⟨sk, HSK⟩ : ∃ sk, Hid (ss.getD k ByteArray.empty = sk) := ⟨_, rfl⟩
              rw [HSK.out] at hck hsk
              obtain ⟨t1, hr1, hv1⟩ := HM1.out.look sk hsk
              obtain ⟨t2, hr2, hv2⟩ := HM2.out.look sk hsk
              have ht : t1 = t2 := val_inj (hv1.symm.trans hv2)
              subst ht
              clear hc hv1 hv2
              cases hh : Maps.has (mapD ss (roots (edges G)) len1) (key sk) with
              | true =>
                rw [hh] at hr1 hr2
                clear hh
                go_wp2
                go_round
                case rel => exact ⟨k + 1, by omega, by go_num⟩
                case measure => simp [intOf]; omega
              | false =>
                rw [hh] at hr1 hr2
                clear hh
                go_wp2
                go_round
                case rel => exact ⟨k + 1, by omega, by go_num⟩
                case measure => simp [intOf]; omega
            · clear HM2
              go_wp2
              go_loop [17] (fun s => ∃ k : Nat, k ≤ len1 ∧ s = .int .i64 k) (fun s => len1 - (intOf s).toNat)
              case atStart => exact ⟨0, Nat.zero_le _, rfl⟩
              case round =>
                obtain ⟨x, hx, rfl⟩ := hrel
                by_cases hltx : x < len1
                · obtain ⟨hGl, fa, fc, h0, hrow⟩ := HG10.out
                  obtain ⟨b, o, rfl, hb, hc⟩ := h0.resolve_left (by omega)
                  have hck := hc x hltx
                  have HIN : Hid (IntRow w10 (fa x) (G.getD x []).length (G.getD x [])) := (hrow x hltx).1
                  have hlk := HF.out.lens x hltx
                  have HGL : Hid (G.length = len1) := hGl
                  obtain ⟨m, HM⟩ : ∃ m, Hid ((G.getD x []).length = m) := ⟨_, rfl⟩
                  obtain ⟨fx, HFX⟩ : ∃ fx, Hid (fa x = fx) := ⟨_, rfl⟩
                  rw [HM.out] at hck hlk
                  rw [HFX.out] at hck
                  clear h0 hrow hc hGl
                  go_wp2
                  go_loop [123] (fun s => ∃ j : Nat, j ≤ m ∧ s = .int .i64 j) (fun s => m - (intOf s).toNat)
                  case atStart => exact ⟨0, Nat.zero_le _, rfl⟩
                  case round =>
                    obtain ⟨j, hj, rfl⟩ := hrel
                    clear hck
                    by_cases hltj : j < m
                    · obtain ⟨_, hin⟩ := HIN.out
                      rw [HFX.out, HM.out] at hin
                      obtain ⟨b', o', rfl, hb', hc'⟩ := hin.resolve_left (by omega)
                      have hcj := hc' j hltj
                      have hzr := HF.out.rng x hltx j (by rw [HM.out]; exact hltj)
                      obtain ⟨y, hy⟩ := Int.eq_ofNat_of_zero_le hzr.1
                      have hmem : (x, y) ∈ edges G := by
                        rw [edges, mem_edgesTo]
                        refine ⟨by rw [HGL.out]; exact hltx, (y : Int), ?_, by simp⟩
                        show (y : Int) ∈ G.getD x []
                        rw [← hy, List.getD_eq_getElem?_getD (l := G.getD x []), List.getElem?_eq_getElem (by rw [HM.out]; exact hltj)]
                        exact List.getElem_mem _
                      rw [hy] at hcj hzr
                      have hyn : y < len1 := by omega
                      clear hc' hin hy hzr
                      by_cases hyx : y = x
                      · subst hyx
                        clear hmem
                        go_wp2
                        go_round
                        case rel => exact ⟨j + 1, by omega, by go_num⟩
                        case measure => simp [intOf]; omega
                      · obtain ⟨f, hf, hff⟩ := edge_facts ss G len1 HF.out.dist x y hltx hyn hmem (fun e => hyx e.symm)
                        obtain ⟨b2, o2, rfl, hb2, hc2⟩ := HS10.out.2.resolve_left (by omega)
                        have hcx := hc2 x hltx
                        have hcy := hc2 y hyn
                        have hr1 := look_val HM1.out _ _ (HSS.out x) (hff x (.inl rfl)).1 (hff x (.inl rfl)).2
                        have hr2 := look_val HM1.out _ _ (HSS.out y) (hff y (.inr (.inl rfl))).1 (hff y (.inr (.inl rfl))).2
                        have hr3 := look_val HM1.out _ _ (HSS.out f) (hff f (.inr (.inr rfl))).1 (hff f (.inr (.inr rfl))).2
                        generalize ss.getD x ByteArray.empty = sx at *
                        generalize ss.getD y ByteArray.empty = sy at *
                        generalize ss.getD f ByteArray.empty = sf at *
                        have hyx' : ((y : Int) == (x : Int)) = false := by simp; omega
                        clear hc2 hff hmem hyx
                        go_wp2
                        go_round
                        case rel => exact ⟨j + 1, by omega, by go_num⟩
                        case measure => simp [intOf]; omega
                    · go_wp2
                      go_round
                      case rel => exact ⟨x + 1, by omega, by go_num⟩
                      case measure => simp [intOf]; omega
                · go_wp2
                  go_ret
                  exact ⟨rfl, hb010⟩

end Go.Proofs.Qxb6615643a
