import Derived.Test.Qxb6615047aRows
import Derived.WalkKit
import Derived.WalkSpells
import Derived.Deep.QuietTactic
import Derived.BigQuiet
import Derived.Lib.SliceRun
namespace Go.Proofs.Qxb6615047a
open Go.RowKit

/-- space, tab, carriage return, line feed -/
def blk (c : Int) : Bool := c == 32 || c == 9 || c == 13 || c == 10

/-- The slice at 'a' of 'len' bytes reads as 'zs'. -/
def Seg (w : World) (a : Option Addr) (len : Nat) (zs : List Int) : Prop :=
  zs.length = len ∧ (len = 0 ∨ ∃ b o, a = some ⟨b, o, none⟩ ∧ b < w.heap.size ∧ ∀ i, i < len → w.cell? ⟨b, o + i, none⟩ = some (.int .u8 (zs.getD i 0)))

theorem isBlank_any (c : Int) (w : World) :
    Calls Try.prog 11 #[.int .u8 c] w fun e w' => e = .returned (.bool (blk c)) ∧ w' = w := by
  by_cases h1 : (c == 32) = true
  · go_enter Try.func11, Try.ntmps11
    go_wp2
    go_ret
    exact ⟨by simp [blk, h1], rfl⟩
  · have h1 : (c == 32) = false := by simpa using h1
    by_cases h2 : (c == 9) = true
    · go_enter Try.func11, Try.ntmps11
      go_wp2
      go_ret
      exact ⟨by simp [blk, h2], rfl⟩
    · have h2 : (c == 9) = false := by simpa using h2
      by_cases h3 : (c == 13) = true
      · go_enter Try.func11, Try.ntmps11
        go_wp2
        go_ret
        exact ⟨by simp [blk, h3], rfl⟩
      · have h3 : (c == 13) = false := by simpa using h3
        go_enter Try.func11, Try.ntmps11
        go_wp2
        go_ret
        exact ⟨by simp [blk, h1, h2, h3], rfl⟩

theorem all_take_snoc (zs : List Int) (k : Nat) (h : k < zs.length) (ha : (zs.take k).all blk = true) (hb : (!blk (zs[k]?.getD 0)) = false) : (zs.take (k + 1)).all blk = true := by
  rw [List.take_succ_eq_append_getElem h, List.all_append, ha]
  simpa [h] using hb

theorem all_false_of (zs : List Int) (k : Nat) (h : k < zs.length) (hb : (!blk (zs[k]?.getD 0)) = true) : zs.all blk = false := by
  rw [List.all_eq_false]
  refine ⟨zs[k], List.getElem_mem h, ?_⟩
  simpa [h] using hb

theorem ret_bool {a b : Bool} (h : a = b) : Ending.returned (.bool a) = .returned (.bool b) := by rw [h]

theorem allBlank_any (a : Option Addr) (len cap : Nat) (zs : List Int) (w : World) (hs : Seg w a len zs) (hl : len ≤ 2097152) :
    Calls Try.prog 9 #[.slice a len cap] w fun e w' => e = .returned (.bool (zs.all blk)) ∧ w' = w := by
  obtain ⟨hz, h0 | ⟨b, o, rfl, hb, hc⟩⟩ := hs
  · subst h0
    obtain rfl : zs = [] := List.eq_nil_of_length_eq_zero hz
    clear hz
    go_enter Try.func9, Try.ntmps9
    go_wp2
    refine wp_loop_rounds 1 ?_
    rw [rounds_succ]
    go_wp2
    go_ret
    exact ⟨rfl, rfl⟩
  · go_enter Try.func9, Try.ntmps9
    go_wp2
    go_loop [3] (fun i => ∃ k : Nat, k ≤ len ∧ i = .int .i64 k ∧ (zs.take k).all blk = true) (fun i => len - (intOf i).toNat)
    case atStart => exact ⟨0, Nat.zero_le _, rfl, rfl⟩
    case round =>
      obtain ⟨k, hk, rfl, hall⟩ := hrel
      have HA : Hid ((zs.take k).all blk = true) := hall
      have HZ : Hid (zs.length = len) := hz
      clear hall hz
      by_cases hlt : k < len
      · have hck := hc k hlt
        clear hc
        go_wp2_with (go_at_call 11; refine (isBlank_any _ _).mono ?_; rintro e w' ⟨rfl, rfl⟩)
        · go_ret
          exact ⟨ret_bool (all_false_of zs k (by rw [HZ.out]; exact hlt) (by assumption)).symm, rfl⟩
        · have hbf : (!blk (zs[k]?.getD 0)) = false := by assumption
          go_round
          case rel => exact ⟨k + 1, by omega, by go_num, all_take_snoc zs k (by rw [HZ.out]; exact hlt) HA.out hbf⟩
          case measure => simp [intOf]; omega
      · clear hc
        go_wp2_with fail
        go_ret
        exact ⟨ret_bool (by have := HA.out; rw [List.take_of_length_le (by rw [HZ.out]; omega)] at this; exact this.symm), rfl⟩

theorem zzA_any (a : Option Addr) (len cap : Nat) (w : World) (_hm : len ≤ 9223372036854775807) :
    Calls Try.prog 6 #[.slice a len cap] w fun e w' => e = .returned (.bool (decide (len ≤ 1048576))) ∧ w' = w := by
  by_cases h : (1048576 : Int) < (len : Int)
  · go_enter Try.func6, Try.ntmps6
    go_wp2
    go_ret
    exact ⟨ret_bool (by simp; omega), rfl⟩
  · go_enter Try.func6, Try.ntmps6
    go_wp2
    go_ret
    exact ⟨ret_bool (by simp; omega), rfl⟩

theorem zzC_any (a : Option Addr) (len cap : Nat) (ok : Bool) (w : World) (_hm : len ≤ 9223372036854775807) :
    Calls Try.prog 14 #[.slice a len cap, .bool ok] w fun e w' => e = .returned (.bool (decide (len ≤ 1048576))) ∧ w' = w := by
  by_cases h : (1048576 : Int) < (len : Int)
  · go_enter Try.func14, Try.ntmps14
    go_wp2
    go_ret
    exact ⟨ret_bool (by simp; omega), rfl⟩
  · go_enter Try.func14, Try.ntmps14
    go_wp2
    go_ret
    exact ⟨ret_bool (by simp; omega), rfl⟩

theorem zzB_any (a : Option Addr) (len cap : Nat) (a1 : Option Addr) (len1 cap1 : Nat) (ok : Bool) (w : World) (_hm : len ≤ 9223372036854775807) (_hm1 : len1 ≤ 9223372036854775807) :
    Calls Try.prog 12 #[.slice a len cap, .slice a1 len1 cap1, .bool ok] w fun e w' => e = .returned (.bool (decide (len + len1 ≤ 1048576))) ∧ w' = w := by
  by_cases h : (1048576 : Int) < (len : Int)
  · go_enter Try.func12, Try.ntmps12
    go_wp2
    go_ret
    exact ⟨ret_bool (by simp; omega), rfl⟩
  · by_cases h1 : (1048576 : Int) < (len1 : Int)
    · go_enter Try.func12, Try.ntmps12
      go_wp2
      go_ret
      exact ⟨ret_bool (by simp; omega), rfl⟩
    · by_cases h2 : (1048576 : Int) < (len : Int) + (len1 : Int)
      · go_enter Try.func12, Try.ntmps12
        go_wp2
        go_ret
        exact ⟨ret_bool (by simp; omega), rfl⟩
      · go_enter Try.func12, Try.ntmps12
        go_wp2
        go_ret
        exact ⟨ret_bool (by simp; omega), rfl⟩

end Go.Proofs.Qxb6615047a
