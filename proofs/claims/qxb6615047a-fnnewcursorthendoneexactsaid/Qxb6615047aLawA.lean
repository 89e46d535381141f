import Derived.Test.Qxb6615047aSuffix
namespace Go.Proofs.Qxb6615047a
open Go.RowKit
set_option linter.unusedVariables false

def GoodA (w : World) (e : Ending) (w' : World) : Prop := e = .returned (.bool true) ∧ Below w.heap.size w w'

theorem allBlank_isA (a : Option Addr) (len cap : Nat) (zs : List Int) (v : Bool) (w : World) (hs : Seg w a len zs) (hl : len ≤ 2097152) (hv : zs.all blk = v) :
    Calls Try.prog 9 #[.slice a len cap] w fun e w' => e = .returned (.bool v) ∧ w' = w := by
  subst hv
  exact allBlank_any a len cap zs w hs hl

theorem Seg.pre {w : World} {a : Option Addr} {len : Nat} {xs ys : List Int} (h : Seg w a len (xs ++ ys)) : Seg w a xs.length xs := by
  obtain ⟨hz, h0 | ⟨b, o, rfl, hlt, hc⟩⟩ := h
  · rw [List.length_append] at hz
    exact ⟨rfl, .inl (by omega)⟩
  · rw [List.length_append] at hz
    refine ⟨rfl, .inr ⟨b, o, rfl, hlt, fun i hi => ?_⟩⟩
    rw [hc i (by omega)]
    simp [List.getD, List.getElem?_append_left hi]

theorem take_all (zs : List Int) : (zs.takeWhile blk).all blk = true := by
  induction zs with
  | nil => rfl
  | cons c t ih =>
    by_cases h : blk c = true
    · simp [List.takeWhile, h]
    · simp [List.takeWhile, h]

theorem drop_nil (zs : List Int) (h : zs.dropWhile blk = []) : zs.all blk = true := by
  have e := List.takeWhile_append_dropWhile (p := blk) (l := zs)
  rw [h, List.append_nil] at e
  rw [← e]
  exact take_all zs

theorem drop_cons (zs : List Int) (c : Int) (t : List Int) (h : zs.dropWhile blk = c :: t) : zs.all blk = false ∧ blk c = false := by
  induction zs with
  | nil => simp at h
  | cons d u ih =>
    by_cases hd : blk d = true
    · rw [List.dropWhile_cons_of_pos hd] at h
      simp [ih h, hd]
    · rw [List.dropWhile_cons_of_neg hd] at h
      injection h with h1 h2
      subst h1
      simp at hd
      simp [hd]

set_option maxHeartbeats 1000000 in
theorem lawA_core (a0 : Option Addr) (len0 cap0 : Nat) (zs : List Int) (w : World) (hs0 : Seg w a0 len0 zs) (hn0 : a0 = none → len0 = 0) (hm0 : len0 ≤ 9223372036854775807) :
    Calls Try.prog 3 #[.slice a0 len0 cap0] w fun e w' => GoodA w e w' := by
  by_cases hsz : len0 ≤ 1048576
  · have hA : ¬ (1048576 : Int) < (len0 : Int) := by omega
    have hzl := hs0.1
    obtain ⟨ps, rs, HP, HR, hpr⟩ : ∃ ps rs, Hid (zs.takeWhile blk = ps) ∧ Hid (zs.dropWhile blk = rs) ∧ zs = ps ++ rs := ⟨_, _, rfl, rfl, (List.takeWhile_append_dropWhile (p := blk) (l := zs)).symm⟩
    have hpal : Hid (ps.all blk = true) := by have := take_all zs; rw [HP.out] at this; exact this
    have hlen : ps.length + rs.length = len0 := by rw [← hzl, hpr, List.length_append]
    have HZ : Hid (zs = ps ++ rs) := hpr
    clear hzl hpr
    go_enter Try.func3, Try.ntmps3
    go_wp2_with fail
    refine (zzA_any _ _ _ _ hm0).mono ?_
    rintro e w' ⟨rfl, rfl⟩
    simp only [hsz, decide_true]
    go_wp2_with fail
    refine (clone_any _ _ _ zs _ hs0 hn0 (by omega)).mono ?_
    rintro e w2 ⟨a2, cap2, rfl, hn2, hcap2, hs2, hb2⟩
    clear hs0 hn0
    go_wp2_with fail
    refine (newDone_any _ _ _ zs _ hs2 hcap2 (by omega)).mono ?_
    rintro e w3 ⟨a3, cap3, rfl, hs3, hb3⟩
    have hs2' := hs2.below hb3
    clear hs2
    have hbw := hb2.trans (hb3.mono hb2.size)
    clear hb2 hb3
    rw [HR.out] at hs3
    cases rs with
    | nil =>
      have hv := drop_nil zs HR.out
      rw [HR.out, hv]
      have HV : Hid (zs.all blk = true) := hv
      clear hv
      go_wp2_with fail
      refine (allBlank_isA _ _ _ zs true _ hs2' (by omega) HV.out).mono ?_
      rintro e w' ⟨rfl, rfl⟩
      go_wp2_with fail
      refine (suffix_any _ _ _ [] _ _ _ ps _ hs3 (by rw [← HZ.out]; exact hs2') (by omega)).mono ?_
      rintro e w4 ⟨rfl, n4, rfl⟩
      go_wp2_with fail
      refine (allBlank_isA _ _ _ zs true _ (hs2'.below (below_drewN (Below.refl _ _) n4)) (by omega) HV.out).mono ?_
      rintro e w5 ⟨rfl, rfl⟩
      go_wp2
      go_ret
      exact ⟨rfl, below_drewN hbw _⟩
    | cons c t =>
      obtain ⟨hv, hbc⟩ := drop_cons zs c t HR.out
      rw [HR.out, hv]
      have HV : Hid (zs.all blk = false) := hv
      have HC : Hid (blk c = false) := hbc
      clear hv hbc
      go_wp2_with fail
      refine (allBlank_isA _ _ _ zs false _ hs2' (by omega) HV.out).mono ?_
      rintro e w' ⟨rfl, rfl⟩
      go_wp2_with fail
      refine (suffix_any _ _ _ (c :: t) _ _ _ ps _ hs3 (by rw [← HZ.out]; exact hs2') (by omega)).mono ?_
      rintro e w4 ⟨rfl, n4, rfl⟩
      obtain ⟨b3, o3, rfl, hb3, hc3⟩ := hs3.2.resolve_left (by simp)
      have hcc : w'.cell? ⟨b3, o3, none⟩ = some (.int .u8 c) := by simpa using hc3 0 (by simp)
      clear hc3 hs3
      simp only [List.length_cons] at hlen
      go_wp2_with fail
      have hpre : Seg (w'.drewN n4) a2 (len0 - (t.length + 1)) ps := by
        have h := Seg.pre (show Seg w' a2 len0 (ps ++ c :: t) by rw [← HZ.out]; exact hs2')
        rw [show len0 - (t.length + 1) = ps.length by omega]
        exact h.below (below_drewN (Below.refl _ _) n4)
      refine (allBlank_isA _ _ _ ps true _ hpre (by omega) hpal.out).mono ?_
      rintro e w5 ⟨rfl, rfl⟩
      go_wp2_with fail
      refine (isBlank_any _ _).mono ?_
      rintro e w5 ⟨rfl, rfl⟩
      rw [HC.out]
      go_wp2
      go_ret
      exact ⟨rfl, below_drewN hbw _⟩
  · go_enter Try.func3, Try.ntmps3
    go_wp2_with fail
    refine (zzA_any _ _ _ _ hm0).mono ?_
    rintro e w' ⟨rfl, rfl⟩
    simp only [hsz, decide_false]
    go_wp2
    go_ret
    exact ⟨rfl, Below.refl _ _⟩

end Go.Proofs.Qxb6615047a
