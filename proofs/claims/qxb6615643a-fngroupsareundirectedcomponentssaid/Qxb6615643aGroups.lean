import Derived.Test.Qxb6615643aMap
import Derived.Deep.RegionHeld2
namespace Go.Proofs.Qxb6615643a
open Go.RowKit Go.Maps
set_option linter.unusedVariables false

theorem DayOK.below {d st rg cg : Nat} {ea : Option Addr} {ecap : Nat} {ha : Option Addr} {hcap : Nat} {ua : Option Addr} {ucap n : Nat} {gm : Value} {w w' : World} (h : DayOK d st rg cg ea ecap ha hcap ua ucap n gm w) {B : Nat} (hb : Below B w w') (hd : d < B) (hst : st < B) (hrg : rg < B) (hcg : cg < B) : DayOK d st rg cg ea ecap ha hcap ua ucap n gm w' :=
  ⟨(hb.cell (p := ⟨d, 0, none⟩) hd).trans h.d0, (hb.cell (p := ⟨d, 2, none⟩) hd).trans h.d2, (hb.cell (p := ⟨rg, 1, none⟩) hrg).trans h.rg1, (hb.cell (p := ⟨st, 0, none⟩) hst).trans h.st0, (hb.cell (p := ⟨st, 6, none⟩) hst).trans h.st6,
    (hb.cell (p := ⟨st, 7, none⟩) hst).trans h.st7, (hb.cell (p := ⟨cg, 0, none⟩) hcg).trans h.cg0, (hb.frozen (p := ⟨st, 6, none⟩) hst).trans h.fz⟩

theorem control_any {d st rg cg : Nat} {ea : Option Addr} {ecap : Nat} {ha : Option Addr} {hcap : Nat} {ua : Option Addr} {ucap n : Nat} {gm : Value} (w : World) (h : DayOK d st rg cg ea ecap ha hcap ua ucap n gm w) :
    Calls Try.prog 17 #[.pointer (some ⟨d, 0, none⟩)] w fun e w' => e = .returned (.pointer (some ⟨cg, 0, none⟩)) ∧ w' = w := by
  obtain ⟨d0, d2, rg1, st0, st6, st7, cg0, fz⟩ := h
  go_enter Try.func17, Try.ntmps17
  go_wp2
  go_ret
  exact ⟨rfl, rfl⟩

/-- the row 'first' behind k rounds of its first loop -/
def idTo (n k : Nat) : List Nat := List.range k ++ List.replicate (n - k) 0

theorem idTo_len (n k : Nat) (h : k ≤ n) : (idTo n k).length = n := by simp [idTo]; omega

theorem idTo_set (n k : Nat) (h : k < n) : (idTo n k).set k k = idTo n (k + 1) := by
  have e : n - k = (n - (k + 1)) + 1 := by omega
  simp only [idTo]
  rw [e, List.replicate_succ, List.set_append_right _ _ (by simp), List.range_succ]
  simp

theorem idTo_rep (n : Nat) : Rep n (idTo n n) (fun i => i) := by
  have e : idTo n n = List.range n := by simp [idTo]
  rw [e]
  refine ⟨by simp, fun i hi => ?_, fun i hi => ?_, fun i hi _ => rfl⟩
  · simp [List.getD, hi]
  · simp [List.getD, hi]

theorem FR.made {g n : Nat} {B : Nat} {w : World} (h : w.ownsRow B 3 1 (.slice (some ⟨g, 0, none⟩) n n) n (madeCells (Value.int .i64 0).cells (n * 1)).toList) : FR g (idTo n 0) w := by
  have := row_of_owns h
  unfold FR
  rw [this]
  have e : (madeCells (Value.int .i64 0).cells (n * 1)).toList = List.replicate (n * 1) (Value.int .i64 0) := toList_madeCells_one _ _
  rw [e]
  simp [idTo]

theorem grown_cell {w w1 : World} {g : Nat} (h : w.grownBy w1 (some g)) {p : Addr} (hp : p.block < w.heap.size) (hne : p.block ≠ g) : w1.cell? p = w.cell? p := World.cell?_of_block (w := w) (h.block p.block hp (fun e => hne (Option.some.inj e)))

/-- what the loops over 'first' carry: the row stands for r; the variable that find captured; old memory -/
structure UF (C g gf n : Nat) (r : Nat → Nat) (w wr : World) : Prop where
  ex : ∃ fs, Rep n fs r ∧ FR g fs wr
  cf : wr.cell? ⟨gf, 0, none⟩ = some (.slice (some ⟨g, 0, none⟩) n n)
  bel : Below C w wr
  le : gf < wr.heap.size

theorem UF.lt {C g gf n : Nat} {r : Nat → Nat} {w wr : World} (h : UF C g gf n r w wr) : g < wr.heap.size := by
  obtain ⟨fs, _, hF⟩ := h.ex
  exact lt_of_block hF

theorem UF.step {C g gf n : Nat} {r r' : Nat → Nat} {w wr w1 : World} {fs' : List Nat} (h : UF C g gf n r w wr) (hg : wr.grownBy w1 (some g)) (hR : Rep n fs' r') (hF : FR g fs' w1) (hne : gf ≠ g) (hgw : C ≤ g) : UF C g gf n r' w w1 :=
  ⟨⟨fs', hR, hF⟩, (grown_cell hg (p := ⟨gf, 0, none⟩) h.le hne).trans h.cf, h.bel.grown hg (by have := h.lt; omega) (fun k e => by cases e; exact hgw), Nat.lt_of_lt_of_le h.le hg.size⟩

/-- a turn elsewhere, in block bm, leaves it -/
theorem UF.other {C g gf n bm : Nat} {r : Nat → Nat} {w wr w1 : World} (h : UF C g gf n r w wr) (hg : wr.grownBy w1 (some bm)) (h1 : g ≠ bm) (h2 : gf ≠ bm) (hC : C ≤ bm) (hCg : C ≤ g) : UF C g gf n r w w1 := by
  have hl := h.lt
  obtain ⟨fs, hR, hF⟩ := h.ex
  exact ⟨⟨fs, hR, (hg.block g hl (fun e => h1 (Option.some.inj e))).trans hF⟩, (grown_cell hg (p := ⟨gf, 0, none⟩) h.le h2).trans h.cf, h.bel.grown hg (by omega) (fun k e => by cases e; exact hC), Nat.lt_of_lt_of_le h.le hg.size⟩

theorem UF.drew {C g gf n : Nat} {r : Nat → Nat} {w wr : World} (h : UF C g gf n r w wr) : UF C g gf n r w wr.drew := ⟨h.ex, h.cf, h.bel.drew, h.le⟩

theorem OM.kept {b N : Nat} {D : DataW Unit} {w w' : World} {g : Nat} (h : OM b N D w) (hg : w.grownBy w' (some g)) (hne : b ≠ g) : OM b N D w' := World.ownsMap.kept h hg (fun e => hne (Option.some.inj e))
theorem OM.drew {b N : Nat} {D : DataW Unit} {w : World} (h : OM b N D w) : OM b N D w.drew := h
theorem OM.mono {b N N' : Nat} {D : DataW Unit} {w : World} (h : OM b N D w) (hN : N ≤ N') : OM b N' D w := World.ownsMap.mono h hN

/-- the Day, its map laid -/
theorem DayOK.laid {d st rg cg : Nat} {ea : Option Addr} {ecap : Nat} {ha : Option Addr} {hcap : Nat} {ua : Option Addr} {ucap n : Nat} {gm gm' : Value} {w : World} (h : DayOK d st rg cg ea ecap ha hcap ua ucap n gm w) (hsd : st ≠ d) (hsr : st ≠ rg) (hsc : st ≠ cg) :
    DayOK d st rg cg ea ecap ha hcap ua ucap n gm' (w.setCell ⟨st, 6, none⟩ gm') := by
  have h1 : d ≠ st := fun e => hsd e.symm
  have h2 : rg ≠ st := fun e => hsr e.symm
  have h3 : cg ≠ st := fun e => hsc e.symm
  obtain ⟨d0, d2, rg1, st0, st6, st7, cg0, fz⟩ := h
  constructor
  · go_simp
  · go_simp
  · go_simp
  · go_simp
  · go_simp
  · go_simp
  · go_simp
  · go_simp

def GroupsEnd (B n : Nat) (D : DataW Unit) (w : World) (e : Ending) (w' : World) : Prop :=
  ∃ bm, e = .returned (.map (some bm)) ∧ OM bm (2 * n) D w' ∧ Below B w w' ∧ w.heap.size ≤ bm

/-- the store 'first[max(a, b)] = min(a, b)' -/
theorem UF.union {C g gf n : Nat} {es : List (Nat × Nat)} {w w4 : World} {fs4 : List Nat} (h : UF C g gf n (roots es) w w4) (hR : Rep n fs4 (roots es)) (hF : FR g fs4 w4) (k y : Nat) (hk : k < n) (hy : y < n) (hne : gf ≠ g) (hgw : C ≤ g) {mx mn : Nat}
    (hmx : max (roots es k) (roots es y) = mx) (hmn : min (roots es k) (roots es y) = mn) : UF C g gf n (roots (es ++ [(k, y)])) w (w4.setCell ⟨g, mx, none⟩ (.int .i64 (mn : Int))) := by
  have hu := hR.union k y hk hy
  have hs := hF.set mx mn
  rw [hmx, hmn] at hu
  rw [roots_snoc]
  exact h.step (grown_set (World.grownBy.refl _ _) mx _) hu hs hne hgw

set_option maxRecDepth 100000 in
set_option maxHeartbeats 2000000 in
theorem groups_any (B d st rg cg : Nat) (ea : Option Addr) (ecap : Nat) (ha : Option Addr) (hcap : Nat) (ua : Option Addr) (ucap n : Nat) (ss : List ByteArray) (G : List (List Int)) (w : World)
    (hD : DayOK d st rg cg ea ecap ha hcap ua ucap n (.map none) w) (hB : B ≤ st) (hBw : B ≤ w.heap.size) (hn : n ≤ 4096) (hG : GrRow w ua n G) (hrng : ∀ x, x < n → ∀ z ∈ G.getD x [], 0 ≤ z ∧ z < n) (hgl : ∀ x, x < n → (G.getD x []).length ≤ 4294967296)
    (hE : ss.length = n ∧ (n = 0 ∨ ∃ b o, ea = some ⟨b, o, none⟩ ∧ b < B ∧ ∀ i, i < n → w.cell? ⟨b, o + i * 4, none⟩ = some (.string (ss.getD i ByteArray.empty)))) (hss : ∀ i, (ss.getD i ByteArray.empty).size ≤ maxLen)
    (hsd : st ≠ d) (hsr : st ≠ rg) (hsc : st ≠ cg) :
    Calls Try.prog 11 #[.pointer (some ⟨d, 0, none⟩)] w fun e w' => GroupsEnd B n (mapD ss (roots (edges G)) n) w e w' := by
  have q27 : ∀ (w : World) (r : Option Nat), (binOp .neq 27 (.map r) (.map none)).run Try.prog w = .ok (.bool (!r.isNone)) w := fun w r => run_neq_map_nil w _ _ _ r Try.underlying27
  have hmm := @run_makeMap Try.prog
  obtain ⟨i0, hi, hz0, hz1, hz2⟩ := info_parts Try.info3
  have hdl : d < w.heap.size := World.block_lt_of_cell? _ _ hD.d0
  have hstl : st < w.heap.size := World.block_lt_of_cell? _ _ hD.st0
  have hrgl : rg < w.heap.size := World.block_lt_of_cell? _ _ hD.rg1
  have hcgl : cg < w.heap.size := World.block_lt_of_cell? _ _ hD.cg0
  have HD : Hid (DayOK d st rg cg ea ecap ha hcap ua ucap n (.map none) w) := hD
  have HG : Hid (GrRow w ua n G) := hG
  have HRNG : Hid (∀ x, x < n → ∀ z ∈ G.getD x [], 0 ≤ z ∧ z < n) := hrng
  have HGL : Hid (∀ x, x < n → (G.getD x []).length ≤ 4294967296) := hgl
  have HE : Hid (ss.length = n ∧ (n = 0 ∨ ∃ b o, ea = some ⟨b, o, none⟩ ∧ b < B ∧ ∀ i, i < n → w.cell? ⟨b, o + i * 4, none⟩ = some (.string (ss.getD i ByteArray.empty)))) := hE
  have HSS : Hid (∀ i, (ss.getD i ByteArray.empty).size ≤ maxLen) := hss
  obtain ⟨d0, d2, rg1, st0, st6, st7, cg0, fz⟩ := hD
  clear hG hrng hgl hE hss
  go_enter Try.func11, Try.ntmps11
  go_wp2_with (at_make; refine wpList_make_full _ rfl (.tmp 38) (.tmp 38) 33 rfl w.heap.size 3 i0 (.int .i64 0) 1 Try.underlying33 hi hz0 hz1 _ _ _ _ n rfl rfl rfl rfl (by rw [hz2]; omega) (by unfold maxLen; omega) (Nat.le_refl _) ?_; intro w1 hown hgrow)
  have hsz1 : w.heap.size < w1.heap.size := lt_of_block (row_of_owns hown)
  have hF0 : FR w.heap.size (idTo n 0) (w1.alloc (.cells #[.slice (some ⟨w.heap.size, 0, none⟩) n n] 33)) := FR.made (hown.alloc _)
  have hb0 : Below w.heap.size w (w1.alloc (.cells #[.slice (some ⟨w.heap.size, 0, none⟩) n n] 33)) := ((Below.refl _ _).grown hgrow (Nat.le_refl _) (fun k e => by cases e)).alloc (Nat.le_of_lt hsz1) _
  clear hown hgrow
  go_loopw [42] (fun s wr => ∃ k : Nat, k ≤ n ∧ s = .int .i64 k ∧ FR w.heap.size (idTo n k) wr ∧ wr.cell? ⟨w1.heap.size, 0, none⟩ = some (.slice (some ⟨w.heap.size, 0, none⟩) n n) ∧ Below w.heap.size w wr ∧ w1.heap.size < wr.heap.size) (fun s _ => n - (intOf s).toNat)
  case atStart => exact ⟨0, Nat.zero_le _, rfl, hF0, by go_simp, hb0, by simp⟩
  case round =>
    obtain ⟨k, hk, rfl, hFr, hcf, hbr, hlr⟩ := hrel
    clear hF0 hb0 d0 d2 rg1 st0 st6 st7 cg0 fz
    by_cases hlt : k < n
    · have hck := hFr.cell k (by rw [idTo_len n k hk]; exact hlt)
      have hfz := hFr.frozen k
      have hset := hFr.set k k
      rw [idTo_set n k hlt] at hset
      generalize (idTo n k).getD k 0 = q at hck
      have HS : Hid (FR w.heap.size (idTo n (k + 1)) (wr.setCell ⟨w.heap.size, k, none⟩ (.int .i64 (k : Int)))) := hset
      clear hset hFr
      go_wp2
      go_roundw
      case rel => exact ⟨k + 1, by omega, by go_num, HS.out, by go_simp, hbr.setCell (p := ⟨w.heap.size, k, none⟩) (Nat.le_refl _) _, by simpa [World.setCell] using hlr⟩
      case measure => simp [intOf]; omega
    · have hkn : n = k := by omega
      subst hkn
      have hU : UF w.heap.size w.heap.size w1.heap.size n (roots (edgesTo G 0)) w wr := ⟨⟨_, idTo_rep n, hFr⟩, hcf, hbr, hlr⟩
      have hDr := HD.out.below hbr hdl hstl hrgl hcgl
      have HDr : Hid (DayOK d st rg cg ea ecap ha hcap ua ucap n (.map none) wr) := hDr
      have cg0 := hDr.cg0
      clear hFr hcf hbr hlr hDr hlt hk
      obtain ⟨wa, rfl⟩ : ∃ wa : World, wa = wr := ⟨_, rfl⟩
      go_wp2_with (go_at_call 17; refine (control_any _ HDr.out).mono ?_; rintro e w2 ⟨rfl, rfl⟩)
      clear HDr cg0
      go_loopw [57] (fun s wr => ∃ k : Nat, k ≤ n ∧ s = .int .i64 k ∧ UF w.heap.size w.heap.size w1.heap.size n (roots (edgesTo G k)) w wr) (fun s _ => n - (intOf s).toNat)
      case atStart => exact ⟨0, Nat.zero_le _, rfl, hU⟩
      case round =>
        obtain ⟨k, hk, rfl, hUr⟩ := hrel
        clear hU
        by_cases hlt : k < n
        · obtain ⟨_, fa, fc, h0, hrow⟩ := HG.out
          obtain ⟨b, o, rfl, hb, hc⟩ := h0.resolve_left (by omega)
          have hck := (hUr.bel.cell (p := ⟨b, o + k, none⟩) hb).trans (hc k hlt)
          have hin := (hrow k hlt).1
          have hrk := HRNG.out k hlt
          have hlk := HGL.out k hlt
          have HIN : Hid (IntRow w (fa k) (G.getD k []).length (G.getD k [])) := hin
          have HRK : Hid (∀ z ∈ G.getD k [], 0 ≤ z ∧ z < n) := hrk
          obtain ⟨m, HM⟩ : ∃ m, Hid ((G.getD k []).length = m) := ⟨_, rfl⟩
          rw [HM.out] at hck hlk
          have hU0 : UF w.heap.size w.heap.size w1.heap.size n (roots (edgesAt G k 0)) w wr := by rw [edgesAt_zero]; exact hUr
          clear h0 hrow hc hin hrk hUr
          obtain ⟨fk, HFK⟩ : ∃ fk, Hid (fa k = fk) := ⟨_, rfl⟩
          rw [HFK.out] at hck
          obtain ⟨wb, rfl⟩ : ∃ wb : World, wb = wr := ⟨_, rfl⟩
          go_wp2_with fail
          go_loopw [64] (fun s wr => ∃ j : Nat, j ≤ m ∧ s = .int .i64 j ∧ UF w.heap.size w.heap.size w1.heap.size n (roots (edgesAt G k j)) w wr) (fun s _ => m - (intOf s).toNat)
          case atStart => exact ⟨0, Nat.zero_le _, rfl, hU0⟩
          case round =>
            obtain ⟨j, hj, rfl, hUj⟩ := hrel
            clear hU0 hck
            by_cases hltj : j < m
            · obtain ⟨_, hin⟩ := HIN.out
              rw [HFK.out, HM.out] at hin
              obtain ⟨b', o', rfl, hb', hc'⟩ := hin.resolve_left (by omega)
              have hcj := (hUj.bel.cell (p := ⟨b', o' + j, none⟩) hb').trans (hc' j hltj)
              have hzr := HRK.out ((G.getD k []).getD j 0) (by rw [List.getD_eq_getElem?_getD (l := G.getD k []), List.getElem?_eq_getElem (by rw [HM.out]; exact hltj)]; exact List.getElem_mem _)
              have hes := edgesAt_succ G k j (by rw [HM.out]; exact hltj)
              obtain ⟨y, hy⟩ := Int.eq_ofNat_of_zero_le hzr.1
              rw [hy] at hcj hes hzr
              have hyn : y < n := by omega
              rw [Int.toNat_natCast] at hes
              have HES : Hid (edgesAt G k (j + 1) = edgesAt G k j ++ [(k, y)]) := hes
              clear hc' hin hes hy hzr
              have HUJ : Hid (UF w.heap.size w.heap.size w1.heap.size n (roots (edgesAt G k j)) w wr) := hUj
              obtain ⟨fs, hR, hF⟩ := hUj.ex
              have hcf := hUj.cf
              clear hUj
              go_wp2_with fail
              refine (find_any w1.heap.size w.heap.size n fs (roots (edgesAt G k j)) k _ hlt (by omega) hR hF hcf (by omega)).mono ?_
              rintro e w3 ⟨rfl, fs3, hR3, hF3, hg3⟩
              have hU3 := HUJ.out.step hg3 hR3 hF3 (by omega) (Nat.le_refl _)
              have HU3 : Hid (UF w.heap.size w.heap.size w1.heap.size n (roots (edgesAt G k j)) w w3) := hU3
              have hcf3 := hU3.cf
              clear hU3 hR hF hcf HUJ hcj hg3
              go_wp2_with fail
              refine (find_any w1.heap.size w.heap.size n fs3 (roots (edgesAt G k j)) y _ hyn (by omega) hR3 hF3 hcf3 (by omega)).mono ?_
              rintro e w4 ⟨rfl, fs4, hR4, hF4, hg4⟩
              have hU4 := HU3.out.step hg4 hR4 hF4 (by omega) (Nat.le_refl _)
              have HU4 : Hid (UF w.heap.size w.heap.size w1.heap.size n (roots (edgesAt G k j)) w w4) := hU4
              have hcf4 := hU4.cf
              have hst : ∀ mx mn : Nat, max (roots (edgesAt G k j) k) (roots (edgesAt G k j) y) = mx → min (roots (edgesAt G k j) k) (roots (edgesAt G k j) y) = mn → UF w.heap.size w.heap.size w1.heap.size n (roots (edgesAt G k (j + 1))) w (w4.setCell ⟨w.heap.size, mx, none⟩ (.int .i64 (mn : Int))) :=
                fun mx mn h1 h2 => by rw [HES.out]; exact hU4.union hR4 hF4 k y hlt hyn (by omega) (Nat.le_refl _) h1 h2
              have hra := hR4.root_le k hlt
              have hrb := hR4.root_le y hyn
              have hcell : ∀ i, i < n → w4.cell? ⟨w.heap.size, i, none⟩ = some (.int .i64 ((fs4.getD i 0 : Nat) : Int)) := fun i hi => hF4.cell i (by rw [hR4.len]; exact hi)
              have hfzn : ∀ i, w4.frozen? ⟨w.heap.size, i, none⟩ = false := fun i => hF4.frozen i
              clear hU4 hR3 hF3 hcf3 HU3 hg4 HU4 hR4 hF4
              generalize roots (edgesAt G k j) k = ra at *
              generalize roots (edgesAt G k j) y = rb at *
              rcases Nat.lt_trichotomy ra rb with hab | hab | hab
              · have hcm := hcell rb (by omega)
                have hfm := hfzn rb
                generalize fs4.getD rb 0 = q at hcm
                have HST : Hid (UF w.heap.size w.heap.size w1.heap.size n (roots (edgesAt G k (j + 1))) w (w4.setCell ⟨w.heap.size, rb, none⟩ (.int .i64 (ra : Int)))) := hst rb ra (Nat.max_eq_right (Nat.le_of_lt hab)) (Nat.min_eq_left (Nat.le_of_lt hab))
                have hab' : (ra : Int) < (rb : Int) := by omega
                clear hcell hfzn hst
                go_wp2
                go_roundw
                case rel => exact ⟨j + 1, by omega, by go_num, HST.out⟩
                case measure => simp [intOf]; omega
              · subst hab
                have hcm := hcell ra (by omega)
                have hfm := hfzn ra
                generalize fs4.getD ra 0 = q at hcm
                have HST : Hid (UF w.heap.size w.heap.size w1.heap.size n (roots (edgesAt G k (j + 1))) w (w4.setCell ⟨w.heap.size, ra, none⟩ (.int .i64 (ra : Int)))) := hst ra ra (Nat.max_self _) (Nat.min_self _)
                clear hcell hfzn hst
                go_wp2
                go_roundw
                case rel => exact ⟨j + 1, by omega, by go_num, HST.out⟩
                case measure => simp [intOf]; omega
              · have hcm := hcell ra (by omega)
                have hfm := hfzn ra
                generalize fs4.getD ra 0 = q at hcm
                have HST : Hid (UF w.heap.size w.heap.size w1.heap.size n (roots (edgesAt G k (j + 1))) w (w4.setCell ⟨w.heap.size, ra, none⟩ (.int .i64 (rb : Int)))) := hst ra rb (Nat.max_eq_left (Nat.le_of_lt hab)) (Nat.min_eq_right (Nat.le_of_lt hab))
                have hab' : ¬ (ra : Int) < (rb : Int) := by omega
                have hab2 : (rb : Int) < (ra : Int) := by omega
                clear hcell hfzn hst
                go_wp2
                go_roundw
                case rel => exact ⟨j + 1, by omega, by go_num, HST.out⟩
                case measure => simp [intOf]; omega
            · have hall := edgesAt_all G k j (by rw [HM.out]; omega)
              rw [hall] at hUj
              have HUJ : Hid (UF w.heap.size w.heap.size w1.heap.size n (roots (edgesTo G (k + 1))) w wr) := hUj
              clear hUj hall
              go_wp2
              go_roundw
              case rel => exact ⟨k + 1, by omega, by go_num, HUJ.out⟩
              case measure => simp [intOf]; omega
        · have hkn : n = k := by omega
          subst hkn
          have hed : edges G = edgesTo G n := by rw [edges, HG.out.1]
          have hU : UF w.heap.size w.heap.size w1.heap.size n (roots (edges G)) w wr := by rw [hed]; exact hUr
          clear hed
          have hDr := HD.out.below hU.bel hdl hstl hrgl hcgl
          obtain ⟨d0, d2, rg1, st0, st6, st7, cg0, fz⟩ := hDr
          clear hUr hlt hk
          obtain ⟨wb, rfl⟩ : ∃ wb : World, wb = wr := ⟨_, rfl⟩
          have hwl : w.heap.size ≤ wb.heap.size := hU.bel.size
          have hba : ∀ o : Obj, Below wb.heap.size wb (wb.alloc o) := fun o => (Below.refl _ _).alloc (Nat.le_refl _) o
          have hs6 : (wb.alloc (.map #[] 0)).cell? ⟨st, 6, none⟩ = some (.map none) := ((hba _).cell (p := ⟨st, 6, none⟩) (by show st < wb.heap.size; omega)).trans st6
          have hf6 : (wb.alloc (.map #[] 0)).frozen? ⟨st, 6, none⟩ = false := ((hba _).frozen (p := ⟨st, 6, none⟩) (by show st < wb.heap.size; omega)).trans fz
          have hD5 : DayOK d st rg cg ea ecap ha hcap ua ucap n (.map (some wb.heap.size)) ((wb.alloc (.map #[] 0)).setCell ⟨st, 6, none⟩ (.map (some wb.heap.size))) :=
            ((DayOK.mk d0 d2 rg1 st0 st6 st7 cg0 fz).below (hba _) (by omega) (by omega) (by omega) (by omega)).laid hsd hsr hsc
          have hO5 : OM wb.heap.size 0 (.map []) ((wb.alloc (.map #[] 0)).setCell ⟨st, 6, none⟩ (.map (some wb.heap.size))) :=
            World.ownsMap.setCell (World.ownsMap_made _ _ _ _) (a := ⟨st, 6, none⟩) (show wb.heap.size ≠ st by omega) _
          have hgl1 := hU.lt
          have hgl2 := hU.le
          have hU5 : UF w.heap.size w.heap.size w1.heap.size n (roots (edges G)) ((wb.alloc (.map #[] 0)).setCell ⟨st, 6, none⟩ (.map (some wb.heap.size))) ((wb.alloc (.map #[] 0)).setCell ⟨st, 6, none⟩ (.map (some wb.heap.size))) := by
            obtain ⟨fs, hR, hF⟩ := hU.ex
            refine ⟨⟨fs, hR, ?_⟩, ?_, Below.refl _ _, ?_⟩
            · unfold FR
              rw [Below.heap_setCell _ _ _ _ (show w.heap.size ≠ st by omega), (hba _).block _ hgl1]
              exact hF
            · rw [World.cell?_of_block (w := wb.alloc (.map #[] 0)) (Below.heap_setCell _ _ _ _ (show w1.heap.size ≠ st by omega)), (hba _).cell (p := ⟨w1.heap.size, 0, none⟩) hgl2]
              exact hU.cf
            · simp [World.setCell]; omega
          have hb5 : Below B w ((wb.alloc (.map #[] 0)).setCell ⟨st, 6, none⟩ (.map (some wb.heap.size))) := ((hU.bel.mono hBw).alloc (by omega) _).setCell (p := ⟨st, 6, none⟩) hB _
          have hE5 : n = 0 ∨ ∃ b o, ea = some ⟨b, o, none⟩ ∧ b < B ∧ ∀ i, i < n → ((wb.alloc (.map #[] 0)).setCell ⟨st, 6, none⟩ (.map (some wb.heap.size))).cell? ⟨b, o + i * 4, none⟩ = some (.string (ss.getD i ByteArray.empty)) := by
            rcases HE.out.2 with h0 | ⟨b, o, h1, h2, h3⟩
            · exact .inl h0
            · exact .inr ⟨b, o, h1, h2, fun i hi => (hb5.cell (p := ⟨b, o + i * 4, none⟩) h2).trans (h3 i hi)⟩
          have HU5 : Hid (_ ∧ _ ∧ _ ∧ _ ∧ _) := ⟨hD5, hO5, hU5, hb5, hE5⟩
          clear hD5 hO5 hU5 hb5 hE5 hU
          go_wp2_with fail
          clear hs6 hf6 d0 d2 rg1 st0 st6 st7 cg0 fz hba
          generalize (wb.alloc (.map #[] 0)).setCell ⟨st, 6, none⟩ (.map (some wb.heap.size)) = w5 at *
          obtain ⟨hD5, hO5, hU5, hb5, hE5⟩ := HU5.out
          have hbg : wb.heap.size ≠ w.heap.size := by omega
          have hbgf : w1.heap.size ≠ wb.heap.size := by omega
          generalize wb.heap.size = bm at *
          go_loopw [92] (fun s wr => ∃ k : Nat, k ≤ n ∧ s = .int .i64 k ∧ UF w.heap.size w.heap.size w1.heap.size n (roots (edges G)) w5 wr ∧ OM bm (2 * k) (mapD ss (roots (edges G)) k) wr) (fun s _ => n - (intOf s).toNat)
          case atStart => exact ⟨0, Nat.zero_le _, rfl, hU5, hO5⟩
          case round =>
            obtain ⟨k, hk, rfl, hUr, hOr⟩ := hrel
            clear hU5 hO5
            by_cases hlt : k < n
            · obtain ⟨fs, hR, hF⟩ := hUr.ex
              have hcf := hUr.cf
              have HUr : Hid (UF w.heap.size w.heap.size w1.heap.size n (roots (edges G)) w5 wr) := hUr
              have HOr : Hid (OM bm (2 * k) (mapD ss (roots (edges G)) k) wr) := hOr
              clear hUr hOr
              go_wp2_with fail
              refine (find_any w1.heap.size w.heap.size n fs (roots (edges G)) k _ hlt (by omega) hR hF hcf (by omega)).mono ?_
              rintro e w6 ⟨rfl, fs6, hR6, hF6, hg6⟩
              have hU6 := HUr.out.step hg6 hR6 hF6 (by omega) (Nat.le_refl _)
              have hO6 := HOr.out.kept hg6 hbg
              have hD6 := hD5.below hU6.bel hdl hstl hrgl hcgl
              obtain ⟨b, o, rfl, hbB, hcE⟩ := hE5.resolve_left (by omega)
              have hce : ∀ i, i < n → w6.cell? ⟨b, o + i * 4, none⟩ = some (.string (ss.getD i ByteArray.empty)) := fun i hi => (hU6.bel.cell (p := ⟨b, o + i * 4, none⟩) (by show b < w.heap.size; omega)).trans (hcE i hi)
              have hrle := hR6.root_le k hlt
              have HU6 : Hid (UF w.heap.size w.heap.size w1.heap.size n (roots (edges G)) w5 w6) := hU6
              have HO6 : Hid (OM bm (2 * k) (mapD ss (roots (edges G)) k) w6) := hO6
              have HD6 : Hid (DayOK d st rg cg (some ⟨b, o, none⟩) ecap ha hcap ua ucap n (.map (some bm)) w6) := hD6
              clear HUr HOr hR hF hcf hR6 hF6 hg6 hU6 hO6 hD6 hcE
              by_cases hrk : roots (edges G) k = k
              · have hmd : mapD ss (roots (edges G)) (k + 1) = mapD ss (roots (edges G)) k := by simp only [mapD]; rw [if_pos hrk]
                have HMD : Hid (OM bm (2 * (k + 1)) (mapD ss (roots (edges G)) (k + 1)) w6) := by rw [hmd]; exact HO6.out.mono (by omega)
                rw [hrk]
                clear hmd hrk hce HO6 HD6
                go_wp2
                go_roundw
                case rel => exact ⟨k + 1, by omega, by go_num, HU6.out, HMD.out⟩
                case measure => simp [intOf]; omega
              · have hmd : mapD ss (roots (edges G)) (k + 1) = ((mapD ss (roots (edges G)) k).put (key (ss.getD k ByteArray.empty)) (val (ss.getD (roots (edges G) k) ByteArray.empty))).put (key (ss.getD (roots (edges G) k) ByteArray.empty)) (val (ss.getD (roots (edges G) k) ByteArray.empty)) := by simp only [mapD]; rw [if_neg hrk]
                obtain ⟨f, HFf⟩ : ∃ f, Hid (roots (edges G) k = f) := ⟨_, rfl⟩
                rw [HFf.out] at hmd hrle hrk
                rw [HFf.out]
                have hck := hce k hlt
                have hcf := hce f (by omega)
                have hsk := HSS.out k
                have hsf := HSS.out f
                obtain ⟨sk, HSK⟩ : ∃ sk, Hid (ss.getD k ByteArray.empty = sk) := ⟨_, rfl⟩
                obtain ⟨sf, HSF⟩ : ∃ sf, Hid (ss.getD f ByteArray.empty = sf) := ⟨_, rfl⟩
                rw [HSK.out, HSF.out] at hmd
                rw [HSK.out] at hck hsk
                rw [HSF.out] at hcf hsf
                have hbmC : w.heap.size ≤ bm := by omega
                obtain ⟨w7, hrun7, hO7, hg7⟩ := HO6.out.drew.put sk sf hsk hsf (by unfold maxLen; omega)
                have hU7 := HU6.out.drew.other hg7 (fun e => hbg e.symm) hbgf hbmC (Nat.le_refl _)
                have hD7 := hD5.below hU7.bel hdl hstl hrgl hcgl
                obtain ⟨w8, hrun8, hO8, hg8⟩ := hO7.drew.put sf sf hsf hsf (by unfold maxLen; omega)
                have hU8 := hU7.drew.other hg8 (fun e => hbg e.symm) hbgf hbmC (Nat.le_refl _)
                have hb67 : Below w.heap.size w6 w7 := ((Below.refl _ _).drew).grown hg7 (by have := HU6.out.lt; show w.heap.size ≤ w6.heap.size; omega) (fun j e => by cases e; exact hbmC)
                have hck7 := (hb67.cell (p := ⟨b, o + f * 4, none⟩) (by show b < w.heap.size; omega)).trans hcf
                have hck7' := (hb67.cell (p := ⟨b, o + k * 4, none⟩) (by show b < w.heap.size; omega)).trans hck
                have hb78 : Below w.heap.size w7 w8 := ((Below.refl _ _).drew).grown hg8 (by have := hU7.lt; show w.heap.size ≤ w7.heap.size; omega) (fun j e => by cases e; exact hbmC)
                have hck8 := (hb78.cell (p := ⟨b, o + f * 4, none⟩) (by show b < w.heap.size; omega)).trans hck7
                have hD8 := hD5.below hU8.bel hdl hstl hrgl hcgl
                have j0 := hD8.d0
                have j2 := hD8.d2
                have jr1 := hD8.rg1
                have js6 := hD8.st6
                have HEND : Hid (UF w.heap.size w.heap.size w1.heap.size n (roots (edges G)) w5 w8 ∧ OM bm (2 * (k + 1)) (mapD ss (roots (edges G)) (k + 1)) w8) := ⟨hU8, by rw [hmd]; exact hO8⟩
                obtain ⟨d0, d2, rg1, st0, st6, st7, cg0, fz⟩ := HD6.out
                have HD7 : Hid (DayOK d st rg cg (some ⟨b, o, none⟩) ecap ha hcap ua ucap n (.map (some bm)) w7) := hD7
                have e0 := hD7.d0
                have e2 := hD7.d2
                have er1 := hD7.rg1
                have es6 := hD7.st6
                have hnek : ((f : Int) != (k : Int)) = true := by simp; omega
                have hfi : (f : Int) < (n : Int) := by omega
                have hki : (k : Int) < (n : Int) := by omega
                have hki0 : (0 : Int) ≤ (k : Int) := by omega
                have hfi0 : (0 : Int) ≤ (f : Int) := by omega
                clear hmd hU7 hD7 hU8 hO7 hO8 hg7 hg8 hce hb67 hrk hb78 hD8
                go_wp2_with fail
                go_region_held2 (fun w' => w'.cell? ⟨d, 0, none⟩ = some (.pointer (some ⟨rg, 0, none⟩)) ∧ w'.cell? ⟨d, 2, none⟩ = some (.pointer (some ⟨st, 0, none⟩)) ∧ w'.cell? ⟨st, 6, none⟩ = some (.map (some bm)) ∧ w'.cell? ⟨rg, 1, none⟩ = some (.slice (some ⟨b, o, none⟩) n ecap) ∧ w'.cell? ⟨b, o + k * 4, none⟩ = some (.string sk) ∧ w'.cell? ⟨b, o + f * 4, none⟩ = some (.string sf)) (go_keep) (fail)
                clear hck hcf hck7' d0 d2 rg1 st6 hrun7
                go_wp2_with fail
                go_region_held2 (fun w' => w'.cell? ⟨d, 0, none⟩ = some (.pointer (some ⟨rg, 0, none⟩)) ∧ w'.cell? ⟨d, 2, none⟩ = some (.pointer (some ⟨st, 0, none⟩)) ∧ w'.cell? ⟨st, 6, none⟩ = some (.map (some bm)) ∧ w'.cell? ⟨rg, 1, none⟩ = some (.slice (some ⟨b, o, none⟩) n ecap) ∧ w'.cell? ⟨b, o + f * 4, none⟩ = some (.string sf)) (go_keep) (fail)
                go_wp2
                go_roundw
                case rel => exact ⟨k + 1, by omega, by go_num, HEND.out.1, HEND.out.2⟩
                case measure => simp [intOf]; omega
            · have hkn : n = k := by omega
              subst hkn
              have hD6 := hD5.below hUr.bel hdl hstl hrgl hcgl
              obtain ⟨d0, d2, rg1, st0, st6, st7, cg0, fz⟩ := hD6
              have HEND : Hid (OM bm (2 * n) (mapD ss (roots (edges G)) n) wr ∧ Below B w wr) := ⟨hOr, hb5.trans (hUr.bel.mono hBw)⟩
              clear hUr hOr hb5 hE5
              go_wp2
              go_ret
              exact ⟨bm, rfl, HEND.out.1, HEND.out.2, by omega⟩

end Go.Proofs.Qxb6615643a
