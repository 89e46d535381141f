import Derived.Test.Qxb6615047aDone
namespace Go.Proofs.Qxb6615047a
open Go.RowKit
set_option linter.unusedVariables false

set_option maxHeartbeats 1000000 in
theorem done21 (B bc bk : Nat) (ok : Bool) (n : Int) (zs : List Int) (w : World) (hcur : Cur B bc ok zs w) (hBc : B ≤ bc) (hBk : B ≤ bk) (hne : bc ≠ bk)
    (hk : w.cell? ⟨bk, 0, none⟩ = some (.int .i64 n)) (hkf : w.frozen? ⟨bk, 0, none⟩ = false) (hn0 : 0 ≤ n) (hn1 : n ≤ 10) (_hl : zs.length ≤ 2097152) :
    Calls Try.prog 18 #[.pointer (some ⟨bc, 0, none⟩), .func (.func 21) #[] #[.pointer (some ⟨bk, 0, none⟩)]] w fun e w' => DoneEnd B bc bk ok (.int .i64 n) (.int .i64 (n + 1)) zs w e w' := by
  go_enter Try.func18, Try.ntmps18
  go_wp2
  go_loopg [] zs.length (fun g wr => ∃ ys, g = ys.length ∧ ys.length ≤ zs.length ∧ Cur B bc ok ys wr ∧ ys.dropWhile blk = zs.dropWhile blk ∧ ys.all blk = zs.all blk ∧ wr.cell? ⟨bk, 0, none⟩ = some (.int .i64 n) ∧ wr.frozen? ⟨bk, 0, none⟩ = false ∧ Below B w wr)
  case atStart => exact ⟨zs, rfl, Nat.le_refl _, hcur, rfl, rfl, hk, hkf, Below.refl _ _⟩
  case round =>
    obtain ⟨ys, hg, hle, hcur', hdrop, hall, hk', hkf', hbel⟩ := hrel
    have A : Aside (gk = ys.length ∧ ys.dropWhile blk = zs.dropWhile blk ∧ ys.all blk = zs.all blk) := ⟨hg, hdrop, hall⟩
    clear hg hdrop hall hk hkf hcur
    have hcur2 := hcur'
    obtain ⟨a, cap, hc0, hcap, hseg, hc1, hfz⟩ := hcur'
    cases ys with
    | nil =>
      cases ok with
      | false =>
        go_wp2
        go_ret
        obtain ⟨-, hd, hal⟩ := A.out
        exact ⟨by simp, by rw [← hd]; exact hcur2, by simpa using hk', hkf', hbel⟩
      | true =>
        go_wp2
        go_end0
        go_wp2
        go_ret
        obtain ⟨-, hd, hal⟩ := A.out
        have hal' : zs.all blk = true := by rw [← hal]; rfl
        exact done_true hcur2 hk' hkf' hbel hBc hBk hne hd hal'
    | cons c t =>
      obtain ⟨b, o, rfl, hb, hcc⟩ := hseg.head
      cases hbc : blk c with
      | true =>
        have hcases : c = 32 ∨ c = 9 ∨ c = 13 ∨ c = 10 := by simpa [blk, or_assoc] using hbc
        have hst : ∀ cap' a', SegB B wr a' t → t.length ≤ cap' → _ := fun cap' a' h1 h2 => cur_step (a' := a') (cap' := cap') h1 h2 hc0 hc1 hfz hk' hkf' hbel hBc hne
        have hsg := hseg.tail hcap
        have HH : Hid (blk c = true) := hbc
        have AA : Aside (_ ∧ _) := ⟨hst, hsg⟩
        clear hst hsg hbc hseg
        by_cases hcap1 : cap = 1
        · subst hcap1
          rcases hcases with rfl | rfl | rfl | rfl
          all_goals
            go_wp2
            go_roundg t.length
            case measure => rw [A.out.1]; simp
            case rel =>
              obtain ⟨-, hd, hal⟩ := A.out
              obtain ⟨hst, hsg⟩ := AA.out
              obtain ⟨hd', hal'⟩ := all_of_cons HH.out hd hal
              have R := hst 0 (some ⟨b, o, none⟩) (.inl (List.eq_nil_of_length_eq_zero (by simp at hcap; simp [hcap]))) (by simp at hcap; simp [hcap])
              exact ⟨t, rfl, by simp at hle; omega, R.1, hd', hal', R.2.1, R.2.2.1, R.2.2.2⟩
        · rcases hcases with rfl | rfl | rfl | rfl
          all_goals
            go_wp2
            go_roundg t.length
            case measure => rw [A.out.1]; simp
            case rel =>
              obtain ⟨-, hd, hal⟩ := A.out
              obtain ⟨hst, hsg⟩ := AA.out
              obtain ⟨hd', hal'⟩ := all_of_cons HH.out hd hal
              rw [if_neg hcap1] at hsg
              have R := hst (cap - 1) (some ⟨b, o + 1, none⟩) hsg (by simp at hcap; omega)
              exact ⟨t, rfl, by simp at hle; omega, R.1, hd', hal', R.2.1, R.2.2.1, R.2.2.2⟩
      | false =>
        obtain ⟨h1, h2, h3, h4⟩ := blk_false hbc
        have HH : Hid (blk c = false) := hbc
        clear hbc hseg
        cases ok with
        | false =>
          go_wp2
          go_ret
          obtain ⟨-, hd, hal⟩ := A.out
          exact ⟨by simp, by rw [← hd]; simpa [List.dropWhile, HH.out] using hcur2, by simpa using hk', hkf', hbel⟩
        | true =>
          go_wp2
          go_ret
          obtain ⟨-, hd, hal⟩ := A.out
          have hal' : zs.all blk = false := by rw [← hal]; simp [HH.out]
          exact ⟨by simp [hal'], by rw [← hd]; simpa [List.dropWhile, HH.out] using hcur2, by simpa [hal'] using hk', hkf', hbel⟩

set_option maxHeartbeats 1000000 in
theorem done22 (B bc bk : Nat) (ok : Bool) (n : Int) (zs : List Int) (w : World) (hcur : Cur B bc ok zs w) (hBc : B ≤ bc) (hBk : B ≤ bk) (hne : bc ≠ bk)
    (hk : w.cell? ⟨bk, 0, none⟩ = some (.int .i64 n)) (hkf : w.frozen? ⟨bk, 0, none⟩ = false) (hn0 : 0 ≤ n) (hn1 : n ≤ 10) (_hl : zs.length ≤ 2097152) :
    Calls Try.prog 18 #[.pointer (some ⟨bc, 0, none⟩), .func (.func 22) #[] #[.pointer (some ⟨bk, 0, none⟩)]] w fun e w' => DoneEnd B bc bk ok (.int .i64 n) (.int .i64 (n + 1)) zs w e w' := by
  go_enter Try.func18, Try.ntmps18
  go_wp2
  go_loopg [] zs.length (fun g wr => ∃ ys, g = ys.length ∧ ys.length ≤ zs.length ∧ Cur B bc ok ys wr ∧ ys.dropWhile blk = zs.dropWhile blk ∧ ys.all blk = zs.all blk ∧ wr.cell? ⟨bk, 0, none⟩ = some (.int .i64 n) ∧ wr.frozen? ⟨bk, 0, none⟩ = false ∧ Below B w wr)
  case atStart => exact ⟨zs, rfl, Nat.le_refl _, hcur, rfl, rfl, hk, hkf, Below.refl _ _⟩
  case round =>
    obtain ⟨ys, hg, hle, hcur', hdrop, hall, hk', hkf', hbel⟩ := hrel
    have A : Aside (gk = ys.length ∧ ys.dropWhile blk = zs.dropWhile blk ∧ ys.all blk = zs.all blk) := ⟨hg, hdrop, hall⟩
    clear hg hdrop hall hk hkf hcur
    have hcur2 := hcur'
    obtain ⟨a, cap, hc0, hcap, hseg, hc1, hfz⟩ := hcur'
    cases ys with
    | nil =>
      cases ok with
      | false =>
        go_wp2
        go_ret
        obtain ⟨-, hd, hal⟩ := A.out
        exact ⟨by simp, by rw [← hd]; exact hcur2, by simpa using hk', hkf', hbel⟩
      | true =>
        go_wp2
        go_end0
        go_wp2
        go_ret
        obtain ⟨-, hd, hal⟩ := A.out
        have hal' : zs.all blk = true := by rw [← hal]; rfl
        exact done_true hcur2 hk' hkf' hbel hBc hBk hne hd hal'
    | cons c t =>
      obtain ⟨b, o, rfl, hb, hcc⟩ := hseg.head
      cases hbc : blk c with
      | true =>
        have hcases : c = 32 ∨ c = 9 ∨ c = 13 ∨ c = 10 := by simpa [blk, or_assoc] using hbc
        have hst : ∀ cap' a', SegB B wr a' t → t.length ≤ cap' → _ := fun cap' a' h1 h2 => cur_step (a' := a') (cap' := cap') h1 h2 hc0 hc1 hfz hk' hkf' hbel hBc hne
        have hsg := hseg.tail hcap
        have HH : Hid (blk c = true) := hbc
        have AA : Aside (_ ∧ _) := ⟨hst, hsg⟩
        clear hst hsg hbc hseg
        by_cases hcap1 : cap = 1
        · subst hcap1
          rcases hcases with rfl | rfl | rfl | rfl
          all_goals
            go_wp2
            go_roundg t.length
            case measure => rw [A.out.1]; simp
            case rel =>
              obtain ⟨-, hd, hal⟩ := A.out
              obtain ⟨hst, hsg⟩ := AA.out
              obtain ⟨hd', hal'⟩ := all_of_cons HH.out hd hal
              have R := hst 0 (some ⟨b, o, none⟩) (.inl (List.eq_nil_of_length_eq_zero (by simp at hcap; simp [hcap]))) (by simp at hcap; simp [hcap])
              exact ⟨t, rfl, by simp at hle; omega, R.1, hd', hal', R.2.1, R.2.2.1, R.2.2.2⟩
        · rcases hcases with rfl | rfl | rfl | rfl
          all_goals
            go_wp2
            go_roundg t.length
            case measure => rw [A.out.1]; simp
            case rel =>
              obtain ⟨-, hd, hal⟩ := A.out
              obtain ⟨hst, hsg⟩ := AA.out
              obtain ⟨hd', hal'⟩ := all_of_cons HH.out hd hal
              rw [if_neg hcap1] at hsg
              have R := hst (cap - 1) (some ⟨b, o + 1, none⟩) hsg (by simp at hcap; omega)
              exact ⟨t, rfl, by simp at hle; omega, R.1, hd', hal', R.2.1, R.2.2.1, R.2.2.2⟩
      | false =>
        obtain ⟨h1, h2, h3, h4⟩ := blk_false hbc
        have HH : Hid (blk c = false) := hbc
        clear hbc hseg
        cases ok with
        | false =>
          go_wp2
          go_ret
          obtain ⟨-, hd, hal⟩ := A.out
          exact ⟨by simp, by rw [← hd]; simpa [List.dropWhile, HH.out] using hcur2, by simpa using hk', hkf', hbel⟩
        | true =>
          go_wp2
          go_ret
          obtain ⟨-, hd, hal⟩ := A.out
          have hal' : zs.all blk = false := by rw [← hal]; simp [HH.out]
          exact ⟨by simp [hal'], by rw [← hd]; simpa [List.dropWhile, HH.out] using hcur2, by simpa [hal'] using hk', hkf', hbel⟩

end Go.Proofs.Qxb6615047a
