import Derived.Test.Qxb6615047aClone
import Derived.Deep.LoopGhost
namespace Go.Proofs.Qxb6615047a
open Go.RowKit
set_option linter.unusedVariables false

/-- The slice at 'a' reads as 'zs', its cells lie below block B. -/
def SegB (B : Nat) (w : World) (a : Option Addr) (zs : List Int) : Prop :=
  zs = [] ∨ ∃ b o, a = some ⟨b, o, none⟩ ∧ b < B ∧ ∀ i, i < zs.length → w.cell? ⟨b, o + i, none⟩ = some (.int .u8 (zs.getD i 0))

theorem SegB.below {B : Nat} {w w' : World} {a : Option Addr} {zs : List Int} (h : SegB B w a zs) (hb : Below B w w') : SegB B w' a zs := by
  rcases h with h | ⟨b, o, rfl, hlt, hc⟩
  · exact .inl h
  · exact .inr ⟨b, o, rfl, hlt, fun i hi => (hb.cell (p := ⟨b, o + i, none⟩) hlt).trans (hc i hi)⟩

theorem SegB.tail {B : Nat} {w : World} {b o cap : Nat} {c : Int} {t : List Int} (h : SegB B w (some ⟨b, o, none⟩) (c :: t)) (hcap : t.length + 1 ≤ cap) :
    SegB B w (if cap = 1 then some ⟨b, o, none⟩ else some ⟨b, o + 1, none⟩) t := by
  rcases h with h | ⟨b', o', he, hlt, hc⟩
  · cases h
  · obtain ⟨rfl, rfl⟩ : b' = b ∧ o' = o := by simpa using he.symm
    by_cases h1 : cap = 1
    · exact .inl (List.eq_nil_of_length_eq_zero (by omega))
    · rw [if_neg h1]
      refine .inr ⟨_, _, rfl, hlt, fun i hi => ?_⟩
      have := hc (i + 1) (by simpa using hi)
      rw [show o' + 1 + i = o' + (i + 1) by omega, this]
      simp [List.getD]

theorem SegB.head {B : Nat} {w : World} {a : Option Addr} {c : Int} {t : List Int} (h : SegB B w a (c :: t)) :
    ∃ b o, a = some ⟨b, o, none⟩ ∧ b < B ∧ w.cell? ⟨b, o, none⟩ = some (.int .u8 c) := by
  rcases h with h | ⟨b, o, rfl, hlt, hc⟩
  · cases h
  · exact ⟨b, o, rfl, hlt, by simpa using hc 0 (by simp)⟩

/-- What 'done' leaves of the cursor: its bytes, its ok. -/
def Cur (B : Nat) (bc : Nat) (ok : Bool) (zs : List Int) (w : World) : Prop :=
  ∃ a cap, w.cell? ⟨bc, 0, none⟩ = some (.slice a zs.length cap) ∧ zs.length ≤ cap ∧ SegB B w a zs ∧ w.cell? ⟨bc, 1, none⟩ = some (.bool ok) ∧ w.frozen? ⟨bc, 0, none⟩ = false

def DoneEnd (B bc bk : Nat) (ok : Bool) (v v' : Value) (zs : List Int) (w : World) (e : Ending) (w' : World) : Prop :=
  e = .returned (.bool (ok && zs.all blk)) ∧ Cur B bc ok (zs.dropWhile blk) w' ∧ w'.cell? ⟨bk, 0, none⟩ = some (if ok && zs.all blk then v' else v) ∧ w'.frozen? ⟨bk, 0, none⟩ = false ∧ Below B w w'

theorem cur_step {B bc bk : Nat} {ok : Bool} {u : Value} {w wr : World} {a' : Option Addr} {cap' : Nat} {t : List Int} {v : Value} (hseg : SegB B wr a' t) (hcap : t.length ≤ cap') (hc0 : wr.cell? ⟨bc, 0, none⟩ = some v)
    (hc1 : wr.cell? ⟨bc, 1, none⟩ = some (.bool ok)) (hfz : wr.frozen? ⟨bc, 0, none⟩ = false) (hk : wr.cell? ⟨bk, 0, none⟩ = some u) (hkf : wr.frozen? ⟨bk, 0, none⟩ = false) (hbel : Below B w wr) (hBc : B ≤ bc) (hne : bc ≠ bk) :
    Cur B bc ok t (wr.setCell ⟨bc, 0, none⟩ (.slice a' t.length cap')) ∧ (wr.setCell ⟨bc, 0, none⟩ (.slice a' t.length cap')).cell? ⟨bk, 0, none⟩ = some u ∧
      (wr.setCell ⟨bc, 0, none⟩ (.slice a' t.length cap')).frozen? ⟨bk, 0, none⟩ = false ∧ Below B w (wr.setCell ⟨bc, 0, none⟩ (.slice a' t.length cap')) := by
  have hb1 : Below B wr (wr.setCell ⟨bc, 0, none⟩ (.slice a' t.length cap')) := (Below.refl _ _).setCell hBc _
  refine ⟨⟨a', cap', ?_, hcap, hseg.below hb1, ?_, ?_⟩, ?_, ?_, hbel.trans hb1⟩
  · go_simp
  · go_simp
  · go_simp
  · go_simp
  · go_simp

theorem all_of_cons {c : Int} {t zs : List Int} (hb : blk c = true) (hd : (c :: t).dropWhile blk = zs.dropWhile blk) (ha : (c :: t).all blk = zs.all blk) : t.dropWhile blk = zs.dropWhile blk ∧ t.all blk = zs.all blk := by
  simp [hb] at hd ha
  exact ⟨hd, ha⟩

theorem blk_false {c : Int} (h : blk c = false) : (c == 32) = false ∧ (c == 9) = false ∧ (c == 13) = false ∧ (c == 10) = false := by
  simpa [blk, and_assoc] using h

theorem done_true {B bc bk : Nat} {u u' : Value} {zs : List Int} {w wr : World} (hcur : Cur B bc true [] wr) (hk : wr.cell? ⟨bk, 0, none⟩ = some u) (hkf : wr.frozen? ⟨bk, 0, none⟩ = false) (hbel : Below B w wr) (hBc : B ≤ bc) (hBk : B ≤ bk) (hne : bc ≠ bk)
    (hd : [].dropWhile blk = zs.dropWhile blk) (hal : zs.all blk = true) : DoneEnd B bc bk true u u' zs w (.returned (.bool true)) (wr.setCell ⟨bk, 0, none⟩ u') := by
  obtain ⟨a, cap, hc0, hcap, hseg, hc1, hfz⟩ := hcur
  have hb1 : Below B wr (wr.setCell ⟨bk, 0, none⟩ u') := (Below.refl _ _).setCell hBk _
  refine ⟨by simp [hal], ?_, ?_, ?_, hbel.trans hb1⟩
  · rw [← hd]
    clear hd
    refine ⟨a, cap, ?_, hcap, hseg.below hb1, ?_, ?_⟩
    · have : bk ≠ bc := fun h => hne h.symm
      go_simp
    · go_simp
    · go_simp
  · simp only [hal, Bool.and_self, if_true]
    go_simp
  · go_simp

set_option maxHeartbeats 1000000 in
theorem done20 (B bc bk : Nat) (ok : Bool) (n : Int) (zs : List Int) (w : World) (hcur : Cur B bc ok zs w) (hBc : B ≤ bc) (hBk : B ≤ bk) (hne : bc ≠ bk)
    (hk : w.cell? ⟨bk, 0, none⟩ = some (.int .i64 n)) (hkf : w.frozen? ⟨bk, 0, none⟩ = false) (hn0 : 0 ≤ n) (hn1 : n ≤ 10) (_hl : zs.length ≤ 2097152) :
    Calls Try.prog 18 #[.pointer (some ⟨bc, 0, none⟩), .func (.func 20) #[] #[.pointer (some ⟨bk, 0, none⟩)]] w fun e w' => DoneEnd B bc bk ok (.int .i64 n) (.int .i64 (n + 1)) zs w e w' := by
  go_enter Try.func18, Try.ntmps18
  go_wp2
  go_loopg [] zs.length (fun g wr => ∃ ys, g = ys.length ∧ ys.length ≤ zs.length ∧ Cur B bc ok ys wr ∧ ys.dropWhile blk = zs.dropWhile blk ∧ ys.all blk = zs.all blk ∧ wr.cell? ⟨bk, 0, none⟩ = some (.int .i64 n) ∧ wr.frozen? ⟨bk, 0, none⟩ = false ∧ Below B w wr)
  case atStart => exact ⟨zs, rfl, Nat.le_refl _, hcur, rfl, rfl, hk, hkf, Below.refl _ _⟩
  case round =>
    obtain ⟨ys, hg, hle, hcur', hdrop, hall, hk', hkf', hbel⟩ := hrel
    have A : Aside (gk = ys.length ∧ ys.dropWhile blk = zs.dropWhile blk ∧ ys.all blk = zs.all blk) := ⟨hg, hdrop, hall⟩
    clear hg hdrop hall hk hkf hcur
    have hcur2 := hcur'
    obtain ⟨a, cap, hc0, hcap, hseg, hc1, hfz⟩ := hcur'
    cases ys with
    | nil =>
      cases ok with
      | false =>
        go_wp2
        go_ret
        obtain ⟨-, hd, hal⟩ := A.out
        exact ⟨by simp, by rw [← hd]; exact hcur2, by simpa using hk', hkf', hbel⟩
      | true =>
        go_wp2
        go_end0
        go_wp2
        go_ret
        obtain ⟨-, hd, hal⟩ := A.out
        have hal' : zs.all blk = true := by rw [← hal]; rfl
        exact done_true hcur2 hk' hkf' hbel hBc hBk hne hd hal'
    | cons c t =>
      obtain ⟨b, o, rfl, hb, hcc⟩ := hseg.head
      cases hbc : blk c with
      | true =>
        have hcases : c = 32 ∨ c = 9 ∨ c = 13 ∨ c = 10 := by simpa [blk, or_assoc] using hbc
        have hst : ∀ cap' a', SegB B wr a' t → t.length ≤ cap' → _ := fun cap' a' h1 h2 => cur_step (a' := a') (cap' := cap') h1 h2 hc0 hc1 hfz hk' hkf' hbel hBc hne
        have hsg := hseg.tail hcap
        have HH : Hid (blk c = true) := hbc
        have AA : Aside (_ ∧ _) := ⟨hst, hsg⟩
        clear hst hsg hbc hseg
        by_cases hcap1 : cap = 1
        · subst hcap1
          rcases hcases with rfl | rfl | rfl | rfl
          all_goals
            go_wp2
            go_roundg t.length
            case measure => rw [A.out.1]; simp
            case rel =>
              obtain ⟨-, hd, hal⟩ := A.out
              obtain ⟨hst, hsg⟩ := AA.out
              obtain ⟨hd', hal'⟩ := all_of_cons HH.out hd hal
              have R := hst 0 (some ⟨b, o, none⟩) (.inl (List.eq_nil_of_length_eq_zero (by simp at hcap; simp [hcap]))) (by simp at hcap; simp [hcap])
              exact ⟨t, rfl, by simp at hle; omega, R.1, hd', hal', R.2.1, R.2.2.1, R.2.2.2⟩
        · rcases hcases with rfl | rfl | rfl | rfl
          all_goals
            go_wp2
            go_roundg t.length
            case measure => rw [A.out.1]; simp
            case rel =>
              obtain ⟨-, hd, hal⟩ := A.out
              obtain ⟨hst, hsg⟩ := AA.out
              obtain ⟨hd', hal'⟩ := all_of_cons HH.out hd hal
              rw [if_neg hcap1] at hsg
              have R := hst (cap - 1) (some ⟨b, o + 1, none⟩) hsg (by simp at hcap; omega)
              exact ⟨t, rfl, by simp at hle; omega, R.1, hd', hal', R.2.1, R.2.2.1, R.2.2.2⟩
      | false =>
        obtain ⟨h1, h2, h3, h4⟩ := blk_false hbc
        have HH : Hid (blk c = false) := hbc
        clear hbc hseg
        cases ok with
        | false =>
          go_wp2
          go_ret
          obtain ⟨-, hd, hal⟩ := A.out
          exact ⟨by simp, by rw [← hd]; simpa [List.dropWhile, HH.out] using hcur2, by simpa using hk', hkf', hbel⟩
        | true =>
          go_wp2
          go_ret
          obtain ⟨-, hd, hal⟩ := A.out
          have hal' : zs.all blk = false := by rw [← hal]; simp [HH.out]
          exact ⟨by simp [hal'], by rw [← hd]; simpa [List.dropWhile, HH.out] using hcur2, by simpa [hal'] using hk', hkf', hbel⟩

set_option maxHeartbeats 1000000 in
theorem done19 (B bc bk : Nat) (ok : Bool) (zs : List Int) (w : World) (hcur : Cur B bc ok zs w) (hBc : B ≤ bc) (hBk : B ≤ bk) (hne : bc ≠ bk)
    (hk : w.cell? ⟨bk, 0, none⟩ = some (.bool false)) (hkf : w.frozen? ⟨bk, 0, none⟩ = false) (_hl : zs.length ≤ 2097152) :
    Calls Try.prog 18 #[.pointer (some ⟨bc, 0, none⟩), .func (.func 19) #[] #[.pointer (some ⟨bk, 0, none⟩)]] w fun e w' => DoneEnd B bc bk ok (.bool false) (.bool true) zs w e w' := by
  go_enter Try.func18, Try.ntmps18
  go_wp2
  go_loopg [] zs.length (fun g wr => ∃ ys, g = ys.length ∧ ys.length ≤ zs.length ∧ Cur B bc ok ys wr ∧ ys.dropWhile blk = zs.dropWhile blk ∧ ys.all blk = zs.all blk ∧ wr.cell? ⟨bk, 0, none⟩ = some (.bool false) ∧ wr.frozen? ⟨bk, 0, none⟩ = false ∧ Below B w wr)
  case atStart => exact ⟨zs, rfl, Nat.le_refl _, hcur, rfl, rfl, hk, hkf, Below.refl _ _⟩
  case round =>
    obtain ⟨ys, hg, hle, hcur', hdrop, hall, hk', hkf', hbel⟩ := hrel
    have A : Aside (gk = ys.length ∧ ys.dropWhile blk = zs.dropWhile blk ∧ ys.all blk = zs.all blk) := ⟨hg, hdrop, hall⟩
    clear hg hdrop hall hk hkf hcur
    have hcur2 := hcur'
    obtain ⟨a, cap, hc0, hcap, hseg, hc1, hfz⟩ := hcur'
    cases ys with
    | nil =>
      cases ok with
      | false =>
        go_wp2
        go_ret
        obtain ⟨-, hd, hal⟩ := A.out
        exact ⟨by simp, by rw [← hd]; exact hcur2, by simpa using hk', hkf', hbel⟩
      | true =>
        go_wp2
        go_end0
        go_wp2
        go_ret
        obtain ⟨-, hd, hal⟩ := A.out
        have hal' : zs.all blk = true := by rw [← hal]; rfl
        exact done_true hcur2 hk' hkf' hbel hBc hBk hne hd hal'
    | cons c t =>
      obtain ⟨b, o, rfl, hb, hcc⟩ := hseg.head
      cases hbc : blk c with
      | true =>
        have hcases : c = 32 ∨ c = 9 ∨ c = 13 ∨ c = 10 := by simpa [blk, or_assoc] using hbc
        have hst : ∀ cap' a', SegB B wr a' t → t.length ≤ cap' → _ := fun cap' a' h1 h2 => cur_step (a' := a') (cap' := cap') h1 h2 hc0 hc1 hfz hk' hkf' hbel hBc hne
        have hsg := hseg.tail hcap
        have HH : Hid (blk c = true) := hbc
        have AA : Aside (_ ∧ _) := ⟨hst, hsg⟩
        clear hst hsg hbc hseg
        by_cases hcap1 : cap = 1
        · subst hcap1
          rcases hcases with rfl | rfl | rfl | rfl
          all_goals
            go_wp2
            go_roundg t.length
            case measure => rw [A.out.1]; simp
            case rel =>
              obtain ⟨-, hd, hal⟩ := A.out
              obtain ⟨hst, hsg⟩ := AA.out
              obtain ⟨hd', hal'⟩ := all_of_cons HH.out hd hal
              have R := hst 0 (some ⟨b, o, none⟩) (.inl (List.eq_nil_of_length_eq_zero (by simp at hcap; simp [hcap]))) (by simp at hcap; simp [hcap])
              exact ⟨t, rfl, by simp at hle; omega, R.1, hd', hal', R.2.1, R.2.2.1, R.2.2.2⟩
        · rcases hcases with rfl | rfl | rfl | rfl
          all_goals
            go_wp2
            go_roundg t.length
            case measure => rw [A.out.1]; simp
            case rel =>
              obtain ⟨-, hd, hal⟩ := A.out
              obtain ⟨hst, hsg⟩ := AA.out
              obtain ⟨hd', hal'⟩ := all_of_cons HH.out hd hal
              rw [if_neg hcap1] at hsg
              have R := hst (cap - 1) (some ⟨b, o + 1, none⟩) hsg (by simp at hcap; omega)
              exact ⟨t, rfl, by simp at hle; omega, R.1, hd', hal', R.2.1, R.2.2.1, R.2.2.2⟩
      | false =>
        obtain ⟨h1, h2, h3, h4⟩ := blk_false hbc
        have HH : Hid (blk c = false) := hbc
        clear hbc hseg
        cases ok with
        | false =>
          go_wp2
          go_ret
          obtain ⟨-, hd, hal⟩ := A.out
          exact ⟨by simp, by rw [← hd]; simpa [List.dropWhile, HH.out] using hcur2, by simpa using hk', hkf', hbel⟩
        | true =>
          go_wp2
          go_ret
          obtain ⟨-, hd, hal⟩ := A.out
          have hal' : zs.all blk = false := by rw [← hal]; simp [HH.out]
          exact ⟨by simp [hal'], by rw [← hd]; simpa [List.dropWhile, HH.out] using hcur2, by simpa [hal'] using hk', hkf', hbel⟩

end Go.Proofs.Qxb6615047a
