import Derived.Test.Qxb6615643aLawD
import Derived.Test.Qxb6615643aHeads
import Derived.Test.Qxb6615643aMatch
namespace Go.Proofs.Qxb6615643a
open Go.RowKit Go.Maps
set_option linter.unusedVariables false

def GoodM (w : World) (e : Ending) (w' : World) : Prop := e = .returned (.bool true) ∧ w' = w

theorem cntK_succ (ss : List ByteArray) (k : Nat) (D : DataW Unit) : cntK ss (k + 1) D = cntK ss k D + (if Maps.has D (key (ss.getD k ByteArray.empty)) then 1 else 0) := by
  simp only [cntK, List.range_succ, List.filter_append, List.length_append]
  congr 1
  cases h : Maps.has D (key (ss.getD k ByteArray.empty))
  · rw [List.filter_cons_of_neg (by rw [h]; exact Bool.false_ne_true)]; rfl
  · rw [List.filter_cons_of_pos (by rw [h])]; rfl

theorem cntK_le (ss : List ByteArray) (k : Nat) (D : DataW Unit) : cntK ss k D ≤ k := by
  have := List.length_filter_le (fun i => Maps.has D (key (ss.getD i ByteArray.empty))) (List.range k)
  simp only [List.length_range] at this
  exact this

set_option maxRecDepth 100000 in
set_option maxHeartbeats 2000000 in
theorem match_any (bm N n : Nat) (a : Option Addr) (cap gH gS : Nat) (ss : List ByteArray) (r : Nat → Nat) (hs szs : List Int) (w : World) (hM : OM bm N (mapD ss r n) w) (hS : StrRow w a n ss) (hH : IRow gH hs w) (hZ : IRow gS szs w) (hl : hs.length = n) (hlz : szs.length = n)
    (hd : ∀ i j, i < n → j < n → ss.getD i ByteArray.empty = ss.getD j ByteArray.empty → i = j) (hle : ∀ i, r i ≤ i) (hidem : ∀ i, r (r i) = r i) (hh : ∀ i, i < n → hs.getD i 0 = ((r i : Nat) : Int)) (hsz : ∀ i, i < n → szs.getD (hs.getD i 0).toNat 0 = (hs.countP (isH (hs.getD i 0)) : Nat))
    (hss : ∀ i, (ss.getD i ByteArray.empty).size ≤ maxLen) (hn : n ≤ 4096) :
    Calls Try.prog 13 #[.map (some bm), .slice a n cap, .slice (some ⟨gH, 0, none⟩) n n, .slice (some ⟨gS, 0, none⟩) n n] w fun e w' => GoodM w e w' := by
  have hhas := size_has ss r n hd hle hidem hs hl hh
  have hspec := fun i hi => (mapD_spec ss r n hd hle hidem n (Nat.le_refl _) i hi).2
  have hsize := mapD_size ss r n hd hle n (Nat.le_refl _)
  have HHAS : Hid (_) := hhas
  have HSP : Hid (_) := hspec
  have HM : Hid (OM bm N (mapD ss r n) w) := hM
  have HS : Hid (StrRow w a n ss) := hS
  have HH : Hid (IRow gH hs w) := hH
  have HZ : Hid (IRow gS szs w) := hZ
  have HLH : Hid (hs.length = n) := hl
  have HLZ : Hid (szs.length = n) := hlz
  have HR : Hid (∀ i, r i ≤ i) := hle
  have HHR : Hid (_) := hh
  have HSZ : Hid (_) := hsz
  have HSS : Hid (_) := hss
  obtain ⟨D, HD⟩ : ∃ D, Hid (mapD ss r n = D) := ⟨_, rfl⟩
  rw [HD.out] at hsize HM HHAS HSP
  have HSIZE : Hid (Maps.size D = cntK ss n D) := hsize
  clear hhas hspec hsize hM hS hH hZ hl hlz hd hle hidem hh hsz hss HD
  go_enter Try.func13, Try.ntmps13
  go_wp2_with fail
  go_loop [9, 10] (fun c s => ∃ k : Nat, k ≤ n ∧ s = .int .i64 k ∧ c = .int .i64 (cntK ss k D)) (fun _ s => n - (intOf s).toNat)
  case atStart => exact ⟨0, Nat.zero_le _, rfl, rfl⟩
  case round =>
    obtain ⟨k, hk, rfl, rfl⟩ := hrel
    by_cases hlt : k < n
    · obtain ⟨b, o, rfl, hb, hc⟩ := HS.out.2.resolve_left (by omega)
      have hck := hc k hlt
      have hrk := HR.out k
      have hcr := hc (r k) (by omega)
      have hch := HH.out.cell k (by rw [HLH.out]; exact hlt)
      have hcz := HZ.out.cell (r k) (by rw [HLZ.out]; omega)
      have hs1 := HSZ.out k hlt
      have hr1 := HHR.out k hlt
      have hh1 := HHAS.out k hlt
      have hv1 := HSP.out k hlt
      have hcs := cntK_succ ss k D
      have hcle := cntK_le ss k D
      have hsk := HSS.out k
      rw [hr1] at hch hs1 hh1
      rw [Int.toNat_natCast] at hs1
      rw [hs1] at hcz
      obtain ⟨sk, HSK⟩ : ∃ sk, Hid (ss.getD k ByteArray.empty = sk) := ⟨_, rfl⟩
      obtain ⟨sr, HSR⟩ : ∃ sr, Hid (ss.getD (r k) ByteArray.empty = sr) := ⟨_, rfl⟩
      obtain ⟨x, HX⟩ : ∃ x, Hid (r k = x) := ⟨_, rfl⟩
      rw [HSK.out] at hck hsk hh1 hv1 hcs
      rw [HSR.out] at hcr hv1
      rw [HX.out] at hrk hcr hch hcz hh1
      obtain ⟨c, HC⟩ : ∃ c, Hid (hs.countP (isH (x : Int)) = c) := ⟨_, rfl⟩
      rw [HC.out] at hcz hh1
      obtain ⟨q, HQ⟩ : ∃ q, Hid (cntK ss k D = q) := ⟨_, rfl⟩
      rw [HQ.out] at hcs hcle ⊢
      have HCS : Hid (_) := hcs
      obtain ⟨t, hr, hv⟩ := HM.out.look sk hsk
      have hcb : c ≤ 4096 := by
        have h1 := List.countP_le_length (p := isH (x : Int)) (l := hs)
        rw [HC.out, HLH.out] at h1
        omega
      cases hb1 : Maps.has D (key sk) with
      | true =>
        rw [hb1] at hr hh1 HCS
        have ht : t = sr := val_inj (hv.symm.trans (hv1 hb1 _))
        subst ht
        have hc1 : 1 < c := of_decide_eq_true hh1.symm
        clear hc hs1 hr1 hh1 hv1 hcs hv hb1
        go_wp2_with fail
        go_round
        case rel => exact ⟨k + 1, by omega, by go_num, by rw [HCS.out]; rfl⟩
        case measure => simp [intOf]; omega
      | false =>
        rw [hb1] at hr hh1 HCS
        have hc1 : ¬ 1 < c := of_decide_eq_false hh1.symm
        clear hc hs1 hr1 hh1 hv1 hcs hv hb1 hcr
        go_wp2_with fail
        go_round
        case rel => exact ⟨k + 1, by omega, by go_num, by rw [HCS.out]; rfl⟩
        case measure => simp [intOf]; omega
    · have hkn : n = k := by omega
      subst hkn
      rw [← HSIZE.out]
      go_wp2_with (at_len; refine wpList_len_own _ rfl (.tmp 52) 27 rfl 9 9 Try.underlying27 _ bm N _ rfl HM.out ?_)
      go_ret
      exact ⟨rfl, rfl⟩

end Go.Proofs.Qxb6615643a
