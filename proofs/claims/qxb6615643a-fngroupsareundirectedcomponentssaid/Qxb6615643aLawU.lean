import Derived.Test.Qxb6615643aGmatch
namespace Go.Proofs.Qxb6615643a
open Go.RowKit Go.Maps
set_option linter.unusedVariables false

set_option maxRecDepth 100000 in
set_option maxHeartbeats 4000000 in
theorem lawU_any (a : Option Addr) (len cap : Nat) (ss : List ByteArray) (a1 : Option Addr) (len1 cap1 : Nat) (G : List (List Int)) (w : World) (hs : StrRow w a len ss) (hg : GrRow w a1 len1 G) (hn : a = none → len = 0) (hn1 : a1 = none → len1 = 0) (hss : ∀ i, (ss.getD i ByteArray.empty).size ≤ maxLen)
    (hm : len ≤ 9223372036854775807) (hm1 : len1 ≤ 9223372036854775807) :
    Calls Try.prog 3 #[.slice a len cap, .slice a1 len1 cap1] w fun e w' => GoodD w e w' := by
  have HSS : Hid (∀ i, (ss.getD i ByteArray.empty).size ≤ maxLen) := hss
  clear hss
  go_enter Try.func3, Try.ntmps3
  go_wp2_with fail
  refine (zzA_any _ _ _ ss _ _ _ G _ hs hg hm hm1).mono ?_
  rintro e w0 ⟨b0, rfl, rfl⟩
  cases b0 with
  | false =>
    clear hs hg
    go_wp2
    go_ret
    exact ⟨rfl, Below.refl _ _⟩
  | true =>
    go_wp2_with fail
    refine (fits_any _ _ _ ss _ _ _ G _ hs hg hm hm1).mono ?_
    rintro e w1 ⟨b1, rfl, hb1, hfit⟩
    cases b1 with
    | false =>
      clear hs hg hfit
      go_wp2
      go_ret
      exact ⟨rfl, hb1⟩
    | true =>
      have hF := hfit rfl
      have he := hF.eq
      subst he
      have HF : Hid (Fits len1 len1 ss G) := hF
      have hn4 := hF.n4
      have hs1 := hs.below hb1
      have hg1 := hg.below hb1
      clear hF hfit hs hg
      go_wp2_with fail
      refine (cloneStrings_any _ _ _ ss _ hs1 hn (by omega)).mono ?_
      rintro e w2 ⟨a2, cap2, rfl, hn2, hs2, hb2⟩
      have hg2 := hg1.below hb2
      have hb02 := hb1.trans (hb2.mono hb1.size)
      clear hs1 hg1 hb1 hb2 hn
      go_wp2_with fail
      refine (cloneGraph_any _ _ _ G _ hg2 hn1 (by omega) (fun i hi => Nat.le_trans (HF.out.lens i hi) (by omega))).mono ?_
      rintro e w3 ⟨a3, cap3, rfl, hn3, hg3, hb3⟩
      have hb03 := hb02.trans (hb3.mono hb02.size)
      have HS3 : Hid (StrRow w3 a2 len1 ss) := hs2.below hb3
      have HG3 : Hid (GrRow w3 a3 len1 G) := hg3
      have HEB : Hid (∀ e ∈ edges G, e.1 < len1 ∧ e.2 < len1) := edge_bounds G len1 HG3.out.1 HF.out.rng
      clear hs2 hg2 hb02 hb3 hn1 hg3
      go_wp2_with fail
      refine (entitiesOf_any _ _ _ ss _ HS3.out (by omega)).mono ?_
      rintro e w5 ⟨a5, cap5, rfl, hE5, hb5⟩
      have HG5 : Hid (GrRow w5 a3 len1 G) := HG3.out.below hb5
      have HE5 : Hid (EntRow w5 a5 len1 ss) := hE5
      clear hE5
      go_wp2_with fail
      refine (newDay_any _ _ _ _ _ _ (by omega)).mono ?_
      rintro e w6 ⟨d6, st6, rg6, cg6, ha6, hc6, rfl, hD6, hb6, hst6, hsd6, hsr6, hsc6⟩
      have HG6 : Hid (GrRow w6 a3 len1 G) := HG5.out.below hb6
      have HD6 : Hid (DayOK d6 st6 rg6 cg6 a5 cap5 ha6 hc6 a3 cap3 len1 (.map none) w6) := hD6
      clear hD6
      go_wp2_with fail
      refine (groups_any w5.heap.size d6 st6 rg6 cg6 a5 cap5 ha6 hc6 a3 cap3 len1 ss G _ HD6.out hst6 hb6.size hn4 HG6.out (rng_mem HF.out.rng) (fun x hx => Nat.le_trans (HF.out.lens x hx) (by omega)) (ent_B HE5.out hb6) HSS.out hsd6 hsr6 hsc6).mono ?_
      rintro e w7 ⟨bm1, rfl, hO7, hb7, hbm7⟩
      have hb57 : Below w5.heap.size w5 w7 := hb6.trans hb7
      have hb37 := hb5.trans (hb57.mono hb5.size)
      have HO7 : Hid (OM bm1 (2 * len1) (mapD ss (roots (edges G)) len1) w7) := hO7
      have HS7 : Hid (StrRow w7 a2 len1 ss) := HS3.out.below hb37
      have HG7 : Hid (GrRow w7 a3 len1 G) := HG3.out.below hb37
      have hb07 := hb03.trans (hb37.mono hb03.size)
      have hel := edges_le G len1 (fun x hx => HF.out.lens x hx) len1 (Nat.le_refl _)
      have hel2 : (edges G).length ≤ 536870912 := by rw [edges, HG7.out.1]; omega
      have HEL : Hid ((edges G).length ≤ 536870912) := hel2
      clear hO7 hb7 hb57 hb37 hb5 hb6 HG5 HE5 HG6 HD6 HS3 HG3 hb03 hst6 hsd6 hsr6 hsc6 hbm7 hel hel2
      go_wp2_with fail
      refine (heads_any len1 a3 cap3 G _ hn4 HG7.out HF.out.rng HEL.out (fun k j hk => edgesAt_le G len1 k j (fun x hx => HF.out.lens x hx) hk hn4) HF.out.lens HEB.out).mono ?_
      rintro e w8 ⟨gH, gS, hs, szs, t, rfl, hH8, hZ8, hOut, hb8⟩
      have hb08 := hb07.trans (hb8.mono hb07.size)
      have HM8 : Hid (OM bm1 (2 * len1) (mapD ss (roots (edges G)) len1) w8) := HO7.out.below hb8 HO7.out.lt
      have HS8 : Hid (StrRow w8 a2 len1 ss) := HS7.out.below hb8
      have HH8 : Hid (IRow gH hs w8) := hH8
      have HZ8 : Hid (IRow gS szs w8) := hZ8
      have HOUT : Hid (Out len1 (edges G) len1 hs szs t) := hOut
      clear hb07 hb8 HO7 HS7 HG7 hH8 hZ8 hOut HEL
      go_wp2_with fail
      have hdd : ∀ i j, i < len1 → j < len1 → ss.getD i ByteArray.empty = ss.getD j ByteArray.empty → i = j := by
        intro i j hi hj h
        rcases Nat.lt_trichotomy i j with h1 | h1 | h1
        · exact absurd h (HF.out.dist i j h1 hj)
        · exact h1
        · exact absurd h.symm (HF.out.dist j i h1 hi)
      have gr := roots_good (edges G)
      refine (match_any bm1 (2 * len1) len1 a2 cap2 gH gS ss (roots (edges G)) hs szs _ HM8.out HS8.out HH8.out HZ8.out HOUT.out.lh HOUT.out.lz hdd gr.le gr.idem (HOUT.out.heads HEB.out) HOUT.out.sizes HSS.out hn4).mono ?_
      rintro e w9 ⟨rfl, rfl⟩
      clear hdd gr
      go_wp2
      go_ret
      exact ⟨rfl, hb08⟩

end Go.Proofs.Qxb6615643a
