import Derived.Test.Qxb6615086aBase
namespace Go.Proofs.Qxb6615086a
open Go.RowKit
set_option linter.unusedVariables false

def Qt (v : Bool) (w : World) (e : Ending) (w' : World) : Prop := e = .returned (.bool v) ∧ ∃ m, w' = w.drewN m

set_option maxHeartbeats 1000000 in
theorem ind_no (rb b o len cap p : Nat) (d c : Int) (w : World) (hr : Rd rb b o len cap p w) (hp : p < len) (hl : len ≤ 2097152) (hc : w.cell? ⟨b, o + p, none⟩ = some (.int .u8 d)) (hd : (d == c) = false) :
    Calls Try.prog 13 #[.pointer (some ⟨rb, 0, none⟩), .int .u8 c] w fun e w' => Qt false w e w' := by
  have hr2 := hr
  obtain ⟨h1, h2⟩ := hr
  go_enter Try.func13, Try.ntmps13
  go_wp2
  go_quiet ((go_at_call 14; exact Calls.quiet_of (peek_any _ b o len cap p d _ (by exact hr2) hp hl (by exact hc))))
  go_wp2
  go_ret
  exact ⟨rfl, nq, rfl⟩

set_option maxHeartbeats 1000000 in
theorem ind_last (rb b o len cap p : Nat) (c : Int) (w : World) (hr : Rd rb b o len cap p w) (hp : p < len) (hl : len ≤ 2097152) (hc : w.cell? ⟨b, o + p, none⟩ = some (.int .u8 c)) (hlast : ((p : Int) + 1 == (len : Int)) = true) :
    Calls Try.prog 13 #[.pointer (some ⟨rb, 0, none⟩), .int .u8 c] w fun e w' => Qt true w e w' := by
  have hr2 := hr
  obtain ⟨h1, h2⟩ := hr
  go_enter Try.func13, Try.ntmps13
  go_wp2
  go_quiet ((go_at_call 14; exact Calls.quiet_of (peek_any _ b o len cap p c _ (by exact hr2) hp hl (by exact hc))))
  go_wp2
  go_ret
  exact ⟨rfl, nq, rfl⟩

set_option maxHeartbeats 1000000 in
theorem ind_next (rb b o len cap p : Nat) (c x : Int) (w : World) (hr : Rd rb b o len cap p w) (hp : p + 1 < len) (hl : len ≤ 2097152) (hc : w.cell? ⟨b, o + p, none⟩ = some (.int .u8 c)) (hx : w.cell? ⟨b, o + (p + 1), none⟩ = some (.int .u8 x)) (hlast : ((p : Int) + 1 == (len : Int)) = false) :
    Calls Try.prog 13 #[.pointer (some ⟨rb, 0, none⟩), .int .u8 c] w fun e w' => Qt (bl x || br x) w e w' := by
  have hr2 := hr
  have hp2 : p < len := by omega
  obtain ⟨h1, h2⟩ := hr
  generalize hv : (bl x || br x) = v
  have hbb : Hid (∀ w, Calls Try.prog 15 #[.int .u8 x] w fun e w' => e = .returned (.bool v) ∧ w' = w) := by subst hv; exact fun w => isBB_any x w
  clear hv
  go_enter Try.func13, Try.ntmps13
  go_wp2
  go_quiet (first | (go_at_call 14; exact Calls.quiet_of (peek_any _ b o len cap p c _ (by exact hr2) hp2 hl (by exact hc))) | (go_at_call 15; exact Calls.quiet_of_same (hbb.out _)))
  go_wp2
  go_ret
  exact ⟨rfl, nq, rfl⟩

/-- what 'atIndicator' answers: d the byte at the position, q: the end of the text, a blank or a line break follows -/
theorem atInd_any (rb b o len cap p : Nat) (d c x : Int) (w : World) (hr : Rd rb b o len cap p w) (hp : p < len) (hl : len ≤ 2097152) (hc : w.cell? ⟨b, o + p, none⟩ = some (.int .u8 d)) (hx : p + 1 < len → w.cell? ⟨b, o + (p + 1), none⟩ = some (.int .u8 x)) :
    Calls Try.prog 13 #[.pointer (some ⟨rb, 0, none⟩), .int .u8 c] w fun e w' => Qt ((d == c) && (decide (p + 1 = len) || (bl x || br x))) w e w' := by
  cases hd : d == c with
  | false => exact ind_no rb b o len cap p d c w hr hp hl hc hd
  | true =>
    obtain rfl : d = c := by simpa using hd
    by_cases h1 : p + 1 = len
    · rw [decide_eq_true h1]
      exact ind_last rb b o len cap p d w hr hp hl hc (by simp; omega)
    · rw [decide_eq_false h1]
      exact ind_next rb b o len cap p d x w hr (by omega) hl hc (hx (by omega)) (by simp; omega)

theorem zzAt_any (rb b o len cap p : Nat) (d c x : Int) (w : World) (v : Bool) (hr : Rd rb b o len cap p w) (hp : p < len) (hl : len ≤ 2097152) (hc : w.cell? ⟨b, o + p, none⟩ = some (.int .u8 d)) (hx : p + 1 < len → w.cell? ⟨b, o + (p + 1), none⟩ = some (.int .u8 x))
    (hv : ((d == c) && (decide (p + 1 = len) || (bl x || br x))) = v) :
    Calls Try.prog 7 #[.pointer (some ⟨rb, 0, none⟩), .int .u8 c] w fun e w' => Qt v w e w' := by
  have H := atInd_any rb b o len cap p d c x w hr hp hl hc hx
  rw [hv] at H
  have HH : Hid (_) := H
  clear H hv hr hc hx
  go_enter Try.func7, Try.ntmps7
  go_wp2_with fail
  refine (Calls.mono HH.out ?_)
  rintro e w' ⟨rfl, m, rfl⟩
  go_wp2
  go_ret
  exact ⟨rfl, m, rfl⟩

end Go.Proofs.Qxb6615086a
