import Derived.Test.Qxb6615086aRows
import Derived.WalkKit
import Derived.WalkSpells
import Derived.WalkSmall
import Derived.Deep.QuietTactic
import Derived.BigQuiet
import Derived.Lib.SliceRun
import Derived.Laws.CopyOwn
namespace Go.Proofs.Qxb6615086a
open Go.RowKit
set_option linter.unusedVariables false

theorem ret_bool {a b : Bool} (h : a = b) : Ending.returned (.bool a) = .returned (.bool b) := by rw [h]

/-- a blank: space, tab -/
def bl (c : Int) : Bool := c == 32 || c == 9
/-- a line break: line feed, carriage return -/
def br (c : Int) : Bool := c == 10 || c == 13

theorem isBlk_any (c : Int) (w : World) : Calls Try.prog 10 #[.int .u8 c] w fun e w' => e = .returned (.bool (bl c)) ∧ w' = w := by
  by_cases h1 : (c == 32) = true
  · go_enter Try.func10, Try.ntmps10
    go_wp2
    go_ret
    exact ⟨by simp [bl, h1], rfl⟩
  · have h1 : (c == 32) = false := by simpa using h1
    go_enter Try.func10, Try.ntmps10
    go_wp2
    go_ret
    exact ⟨by simp [bl, h1], rfl⟩

theorem isBrk_any (c : Int) (w : World) : Calls Try.prog 11 #[.int .u8 c] w fun e w' => e = .returned (.bool (br c)) ∧ w' = w := by
  by_cases h1 : (c == 10) = true
  · go_enter Try.func11, Try.ntmps11
    go_wp2
    go_ret
    exact ⟨by simp [br, h1], rfl⟩
  · have h1 : (c == 10) = false := by simpa using h1
    go_enter Try.func11, Try.ntmps11
    go_wp2
    go_ret
    exact ⟨by simp [br, h1], rfl⟩

theorem isBlank_any (c : Int) (w : World) : Calls Try.prog 17 #[.int .u8 c] w fun e w' => e = .returned (.bool (bl c)) ∧ w' = w := by
  by_cases h1 : (c == 32) = true
  · go_enter Try.func17, Try.ntmps17
    go_wp2
    go_ret
    exact ⟨by simp [bl, h1], rfl⟩
  · have h1 : (c == 32) = false := by simpa using h1
    go_enter Try.func17, Try.ntmps17
    go_wp2
    go_ret
    exact ⟨by simp [bl, h1], rfl⟩

theorem isBreak_any (c : Int) (w : World) : Calls Try.prog 18 #[.int .u8 c] w fun e w' => e = .returned (.bool (br c)) ∧ w' = w := by
  by_cases h1 : (c == 10) = true
  · go_enter Try.func18, Try.ntmps18
    go_wp2
    go_ret
    exact ⟨by simp [br, h1], rfl⟩
  · have h1 : (c == 10) = false := by simpa using h1
    go_enter Try.func18, Try.ntmps18
    go_wp2
    go_ret
    exact ⟨by simp [br, h1], rfl⟩

theorem isBB_any (c : Int) (w : World) : Calls Try.prog 15 #[.int .u8 c] w fun e w' => e = .returned (.bool (bl c || br c)) ∧ w' = w := by
  cases hb : bl c with
  | true =>
    have HB : Hid (bl c = true) := hb
    clear hb
    go_enter Try.func15, Try.ntmps15
    go_wp2_with fail
    refine (isBlank_any _ _).mono ?_
    rintro e w' ⟨rfl, rfl⟩
    rw [HB.out]
    go_wp2
    go_ret
    exact ⟨rfl, rfl⟩
  | false =>
    have HB : Hid (bl c = false) := hb
    clear hb
    go_enter Try.func15, Try.ntmps15
    go_wp2_with fail
    refine (isBlank_any _ _).mono ?_
    rintro e w' ⟨rfl, rfl⟩
    rw [HB.out]
    go_wp2_with fail
    refine (isBreak_any _ _).mono ?_
    rintro e w' ⟨rfl, rfl⟩
    go_wp2
    go_ret
    exact ⟨rfl, rfl⟩

theorem zz_any (a : Option Addr) (len cap : Nat) (p x : Int) (w : World) (_hm : len ≤ 9223372036854775807) :
    Calls Try.prog 9 #[.slice a len cap, .int .i64 p, .int .u8 x] w fun e w' => e = .returned (.bool (decide (len ≤ 1048576))) ∧ w' = w := by
  by_cases h : (1048576 : Int) < (len : Int)
  · go_enter Try.func9, Try.ntmps9
    go_wp2
    go_ret
    exact ⟨ret_bool (by simp; omega), rfl⟩
  · go_enter Try.func9, Try.ntmps9
    go_wp2
    go_ret
    exact ⟨ret_bool (by simp; omega), rfl⟩

/-- the three indicators -/
def ind (k : Nat) : Int := match k with | 0 => 45 | 1 => 63 | _ => 58

theorem ind_any (k : Nat) (hk : k < 3) (w : World) : Calls Try.prog 12 #[.int .i64 k] w fun e w' => e = .returned (.int .u8 (ind k)) ∧ w' = w := by
  match k, hk with
  | 0, _ =>
    go_enter Try.func12, Try.ntmps12
    go_wp2
    go_ret
    exact ⟨rfl, rfl⟩
  | 1, _ =>
    go_enter Try.func12, Try.ntmps12
    go_wp2
    go_ret
    exact ⟨rfl, rfl⟩
  | 2, _ =>
    go_enter Try.func12, Try.ntmps12
    go_wp2
    go_ret
    exact ⟨rfl, rfl⟩

theorem at_any (b o len cap p : Nat) (d : Int) (w : World) (hp : p < len) (hl : len ≤ 2097152) (hc : w.cell? ⟨b, o + p, none⟩ = some (.int .u8 d)) :
    Calls Try.prog 16 #[.slice (some ⟨b, o, none⟩) len cap, .int .i64 p] w fun e w' => e = .returned (.int .u8 d) ∧ w' = w := by
  go_enter Try.func16, Try.ntmps16
  go_wp2
  go_ret
  exact ⟨rfl, rfl⟩

/-- the reader's two fields that are read -/
def Rd (rb b o len cap p : Nat) (w : World) : Prop :=
  w.cell? ⟨rb, 1, none⟩ = some (.slice (some ⟨b, o, none⟩) len cap) ∧ w.cell? ⟨rb, 2, none⟩ = some (.int .i64 p)

theorem peek_any (rb b o len cap p : Nat) (d : Int) (w : World) (hr : Rd rb b o len cap p w) (hp : p < len) (hl : len ≤ 2097152) (hc : w.cell? ⟨b, o + p, none⟩ = some (.int .u8 d)) :
    Calls Try.prog 14 #[.pointer (some ⟨rb, 0, none⟩)] w fun e w' => e = .returned (.int .u8 d) ∧ ∃ m, w' = w.drewN m := by
  obtain ⟨h1, h2⟩ := hr
  go_enter Try.func14, Try.ntmps14
  go_wp2
  go_quiet ((go_at_call 16; exact Calls.quiet_of_same (at_any _ _ _ _ _ d _ hp hl (by exact hc))))
  go_wp2
  go_ret
  exact ⟨rfl, nq, rfl⟩

end Go.Proofs.Qxb6615086a
