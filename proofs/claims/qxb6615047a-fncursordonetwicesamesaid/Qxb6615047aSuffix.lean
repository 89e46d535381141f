import Derived.Test.Qxb6615047aZZ
namespace Go.Proofs.Qxb6615047a
open Go.RowKit
set_option linter.unusedVariables false

def Quiet (v : Bool) (w : World) (e : Ending) (w' : World) : Prop := e = .returned (.bool v) ∧ ∃ n, w' = w.drewN n

set_option maxHeartbeats 1000000 in
theorem suffix_any (a : Option Addr) (ls c : Nat) (zs : List Int) (a' : Option Addr) (lb c' : Nat) (ps : List Int) (w : World) (hs : Seg w a ls zs) (hs' : Seg w a' lb (ps ++ zs)) (hl : lb ≤ 2097152) :
    Calls Try.prog 10 #[.slice a ls c, .slice a' lb c'] w fun e w' => Quiet true w e w' := by
  have HL : Hid (lb = ps.length + ls) := by have h1 := hs.1; have h2 := hs'.1; rw [List.length_append] at h2; show _ = _; omega
  have hle : ls ≤ lb := by have := HL.out; omega
  have hnlt : ¬ (lb : Int) < (ls : Int) := by omega
  by_cases h0 : ls = 0
  · subst h0
    go_enter Try.func10, Try.ntmps10
    go_wp2
    refine wp_loop_rounds 1 ?_
    rw [rounds_succ]
    go_wp2
    go_ret
    exact ⟨rfl, 0, rfl⟩
  · obtain ⟨b, o, rfl, hb, hc⟩ := hs.2.resolve_left h0
    obtain ⟨b', o', rfl, hb', hc'⟩ := hs'.2.resolve_left (by omega)
    have hc2 : ∀ i, i < ls → w.cell? ⟨b', o' + (lb - ls + i), none⟩ = some (.int .u8 (zs.getD i 0)) := by
      intro i hi
      have := hc' (lb - ls + i) (by omega)
      rw [this]
      have := HL.out
      simp only [List.getD]
      rw [List.getElem?_append_right (by omega), show lb - ls + i - ps.length = i by omega]
    clear hc' hs hs'
    go_enter Try.func10, Try.ntmps10
    go_wp2
    go_loopw [6] (fun i wr => ∃ k n : Nat, k ≤ ls ∧ i = .int .i64 k ∧ wr = w.drewN n) (fun i _ => ls - (intOf i).toNat)
    case atStart => exact ⟨0, 0, Nat.zero_le _, rfl, rfl⟩
    case round =>
      obtain ⟨k, n, hk, rfl, rfl⟩ := hrel
      by_cases hlt : k < ls
      · have h1 := hc k hlt
        have h2 := hc2 k hlt
        clear hc hc2
        go_wp2
        go_quiet (fail)
        go_wp2
        go_roundw
        case rel => exact ⟨k + 1, n + nq, by omega, by go_num, rfl⟩
        case measure => simp [intOf]; omega
      · clear hc hc2
        go_wp2
        go_ret
        exact ⟨rfl, n, rfl⟩

set_option maxHeartbeats 1000000 in
theorem same_any (a : Option Addr) (ls c : Nat) (zs : List Int) (a' : Option Addr) (c' : Nat) (w : World) (hs : Seg w a ls zs) (hs' : Seg w a' ls zs) (hl : ls ≤ 2097152) :
    Calls Try.prog 16 #[.slice a ls c, .slice a' ls c'] w fun e w' => Quiet true w e w' := by
  by_cases h0 : ls = 0
  · subst h0
    go_enter Try.func16, Try.ntmps16
    go_wp2
    refine wp_loop_rounds 1 ?_
    rw [rounds_succ]
    go_wp2
    go_ret
    exact ⟨rfl, 0, rfl⟩
  · obtain ⟨b, o, rfl, hb, hc⟩ := hs.2.resolve_left h0
    obtain ⟨b', o', rfl, hb', hc'⟩ := hs'.2.resolve_left h0
    clear hs hs'
    go_enter Try.func16, Try.ntmps16
    go_wp2
    go_loopw [5] (fun i wr => ∃ k n : Nat, k ≤ ls ∧ i = .int .i64 k ∧ wr = w.drewN n) (fun i _ => ls - (intOf i).toNat)
    case atStart => exact ⟨0, 0, Nat.zero_le _, rfl, rfl⟩
    case round =>
      obtain ⟨k, n, hk, rfl, rfl⟩ := hrel
      by_cases hlt : k < ls
      · have h1 := hc k hlt
        have h2 := hc' k hlt
        clear hc hc'
        go_wp2
        go_quiet (fail)
        go_wp2
        go_roundw
        case rel => exact ⟨k + 1, n + nq, by omega, by go_num, rfl⟩
        case measure => simp [intOf]; omega
      · clear hc hc'
        go_wp2
        go_ret
        exact ⟨rfl, n, rfl⟩

end Go.Proofs.Qxb6615047a
