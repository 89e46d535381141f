import Derived.Test.Qxb6615643aRows
import Derived.Test.Qxb6615643aPlain
import Derived.WalkKit
import Derived.WalkSpells
import Derived.WalkSmall
import Derived.Deep.QuietTactic
import Derived.BigQuiet
import Derived.Lib.SliceRun
import Derived.Laws.CopyOwn
namespace Go.Proofs.Qxb6615643a
open Go.RowKit
set_option linter.unusedVariables false

/-- a slice of strings reads as ss -/
def StrRow (w : World) (a : Option Addr) (len : Nat) (ss : List ByteArray) : Prop :=
  ss.length = len ∧ (len = 0 ∨ ∃ b o, a = some ⟨b, o, none⟩ ∧ b < w.heap.size ∧ ∀ i, i < len → w.cell? ⟨b, o + i, none⟩ = some (.string (ss.getD i ByteArray.empty)))

/-- a slice of ints reads as zs -/
def IntRow (w : World) (a : Option Addr) (len : Nat) (zs : List Int) : Prop :=
  zs.length = len ∧ (len = 0 ∨ ∃ b o, a = some ⟨b, o, none⟩ ∧ b < w.heap.size ∧ ∀ i, i < len → w.cell? ⟨b, o + i, none⟩ = some (.int .i64 (zs.getD i 0)))

/-- a slice of slices of ints reads as G -/
def GrRow (w : World) (a : Option Addr) (len : Nat) (G : List (List Int)) : Prop :=
  G.length = len ∧ ∃ (fa : Nat → Option Addr) (fc : Nat → Nat),
    (len = 0 ∨ ∃ b o, a = some ⟨b, o, none⟩ ∧ b < w.heap.size ∧ ∀ i, i < len → w.cell? ⟨b, o + i, none⟩ = some (.slice (fa i) (G.getD i []).length (fc i))) ∧
    ∀ i, i < len → IntRow w (fa i) (G.getD i []).length (G.getD i []) ∧ (fa i = none → (G.getD i []).length = 0)

theorem StrRow.below {w w' : World} {a : Option Addr} {len : Nat} {ss : List ByteArray} (h : StrRow w a len ss) (hb : Below w.heap.size w w') : StrRow w' a len ss := by
  obtain ⟨hz, h0 | ⟨b, o, rfl, hlt, hc⟩⟩ := h
  · exact ⟨hz, .inl h0⟩
  · exact ⟨hz, .inr ⟨b, o, rfl, Nat.lt_of_lt_of_le hlt hb.size, fun i hi => (hb.cell (p := ⟨b, o + i, none⟩) hlt).trans (hc i hi)⟩⟩

theorem IntRow.below {w w' : World} {a : Option Addr} {len : Nat} {zs : List Int} (h : IntRow w a len zs) (hb : Below w.heap.size w w') : IntRow w' a len zs := by
  obtain ⟨hz, h0 | ⟨b, o, rfl, hlt, hc⟩⟩ := h
  · exact ⟨hz, .inl h0⟩
  · exact ⟨hz, .inr ⟨b, o, rfl, Nat.lt_of_lt_of_le hlt hb.size, fun i hi => (hb.cell (p := ⟨b, o + i, none⟩) hlt).trans (hc i hi)⟩⟩

theorem GrRow.below {w w' : World} {a : Option Addr} {len : Nat} {G : List (List Int)} (h : GrRow w a len G) (hb : Below w.heap.size w w') : GrRow w' a len G := by
  obtain ⟨hz, fa, fc, h0, hr⟩ := h
  refine ⟨hz, fa, fc, ?_, fun i hi => ⟨(hr i hi).1.below hb, (hr i hi).2⟩⟩
  rcases h0 with h0 | ⟨b, o, rfl, hlt, hc⟩
  · exact .inl h0
  · exact .inr ⟨b, o, rfl, Nat.lt_of_lt_of_le hlt hb.size, fun i hi => (hb.cell (p := ⟨b, o + i, none⟩) hlt).trans (hc i hi)⟩

def BoolSame (w : World) (e : Ending) (w' : World) : Prop := ∃ b : Bool, e = .returned (.bool b) ∧ w' = w

set_option maxRecDepth 100000 in
set_option maxHeartbeats 2000000 in
theorem zzB_any (a : Option Addr) (len cap : Nat) (ss : List ByteArray) (a1 : Option Addr) (len1 cap1 : Nat) (G : List (List Int)) (w : World) (hs : StrRow w a len ss) (hg : GrRow w a1 len1 G) (hm : len ≤ 9223372036854775807) (hm1 : len1 ≤ 9223372036854775807) :
    Calls Try.prog 14 #[.slice a len cap, .slice a1 len1 cap1] w fun e w' => BoolSame w e w' := by
  by_cases h1 : (1048576 : Int) < (len : Int)
  · clear hs hg
    go_enter Try.func14, Try.ntmps14
    go_wp2
    go_ret
    exact ⟨_, rfl, rfl⟩
  · go_enter Try.func14, Try.ntmps14
    go_wp2
    go_loop [5, 6] (fun z i => ∃ (k : Nat) (n : Int), k ≤ len ∧ i = .int .i64 k ∧ z = .int .i64 n ∧ 0 ≤ n ∧ n ≤ 1048576) (fun _ i => len - (intOf i).toNat)
    case atStart => exact ⟨0, _, Nat.zero_le _, rfl, rfl, by omega, by omega⟩
    case round =>
      obtain ⟨k, n, hk, rfl, rfl, hn0, hn1⟩ := hrel
      by_cases hlt : k < len
      · obtain ⟨b, o, rfl, hb, hc⟩ := hs.2.resolve_left (by omega)
        have hck := hc k hlt
        generalize ss.getD k ByteArray.empty = s at hck
        clear hc hs hg
        by_cases h2 : (1048576 : Int) < (s.size : Int)
        · go_wp2
          go_ret
          exact ⟨_, rfl, rfl⟩
        · by_cases h3 : (1048576 : Int) < n + (s.size : Int)
          · go_wp2
            go_ret
            exact ⟨_, rfl, rfl⟩
          · go_wp2
            go_round
            case rel => exact ⟨k + 1, n + (s.size : Int), by omega, by go_num, rfl, by omega, by omega⟩
            case measure => simp [intOf]; omega
      · clear hs
        by_cases h4 : (1048576 : Int) < (len1 : Int)
        · clear hg
          go_wp2
          go_ret
          exact ⟨_, rfl, rfl⟩
        · by_cases h5 : (1048576 : Int) < n + (len1 : Int)
          · clear hg
            go_wp2
            go_ret
            exact ⟨_, rfl, rfl⟩
          · go_wp2
            go_loop [5, 7] (fun z i => ∃ (k : Nat) (n : Int), k ≤ len1 ∧ i = .int .i64 k ∧ z = .int .i64 n ∧ 0 ≤ n ∧ n ≤ 1048576) (fun _ i => len1 - (intOf i).toNat)
            case atStart => exact ⟨0, _, Nat.zero_le _, rfl, rfl, by omega, by omega⟩
            case round =>
              obtain ⟨k1, n1, hk1, rfl, rfl, hn2, hn3⟩ := hrel
              by_cases hlt1 : k1 < len1
              · obtain ⟨hz, fa, fc, h0, hr⟩ := hg
                obtain ⟨b, o, rfl, hb, hc⟩ := h0.resolve_left (by omega)
                have hck := hc k1 hlt1
                generalize (G.getD k1 []).length = q at hck
                clear hc h0 hr hz
                by_cases h2 : (1048576 : Int) < (q : Int)
                · go_wp2
                  go_ret
                  exact ⟨_, rfl, rfl⟩
                · by_cases h3 : (1048576 : Int) < n1 + (q : Int)
                  · go_wp2
                    go_ret
                    exact ⟨_, rfl, rfl⟩
                  · go_wp2
                    go_round
                    case rel => exact ⟨k1 + 1, n1 + (q : Int), by omega, by go_num, rfl, by omega, by omega⟩
                    case measure => simp [intOf]; omega
              · clear hg
                go_wp2
                go_ret
                exact ⟨_, rfl, rfl⟩

set_option maxRecDepth 100000 in
set_option maxHeartbeats 2000000 in
theorem zzA_any (a : Option Addr) (len cap : Nat) (ss : List ByteArray) (a1 : Option Addr) (len1 cap1 : Nat) (G : List (List Int)) (w : World) (hs : StrRow w a len ss) (hg : GrRow w a1 len1 G) (hm : len ≤ 9223372036854775807) (hm1 : len1 ≤ 9223372036854775807) :
    Calls Try.prog 5 #[.slice a len cap, .slice a1 len1 cap1] w fun e w' => BoolSame w e w' := by
  by_cases h1 : (1048576 : Int) < (len : Int)
  · clear hs hg
    go_enter Try.func5, Try.ntmps5
    go_wp2
    go_ret
    exact ⟨_, rfl, rfl⟩
  · go_enter Try.func5, Try.ntmps5
    go_wp2
    go_loop [5, 6] (fun z i => ∃ (k : Nat) (n : Int), k ≤ len ∧ i = .int .i64 k ∧ z = .int .i64 n ∧ 0 ≤ n ∧ n ≤ 1048576) (fun _ i => len - (intOf i).toNat)
    case atStart => exact ⟨0, _, Nat.zero_le _, rfl, rfl, by omega, by omega⟩
    case round =>
      obtain ⟨k, n, hk, rfl, rfl, hn0, hn1⟩ := hrel
      by_cases hlt : k < len
      · obtain ⟨b, o, rfl, hb, hc⟩ := hs.2.resolve_left (by omega)
        have hck := hc k hlt
        generalize ss.getD k ByteArray.empty = s at hck
        clear hc hs hg
        by_cases h2 : (1048576 : Int) < (s.size : Int)
        · go_wp2
          go_ret
          exact ⟨_, rfl, rfl⟩
        · by_cases h3 : (1048576 : Int) < n + (s.size : Int)
          · go_wp2
            go_ret
            exact ⟨_, rfl, rfl⟩
          · go_wp2
            go_round
            case rel => exact ⟨k + 1, n + (s.size : Int), by omega, by go_num, rfl, by omega, by omega⟩
            case measure => simp [intOf]; omega
      · clear hs
        by_cases h4 : (1048576 : Int) < (len1 : Int)
        · clear hg
          go_wp2
          go_ret
          exact ⟨_, rfl, rfl⟩
        · by_cases h5 : (1048576 : Int) < n + (len1 : Int)
          · clear hg
            go_wp2
            go_ret
            exact ⟨_, rfl, rfl⟩
          · go_wp2
            go_loop [5, 7] (fun z i => ∃ (k : Nat) (n : Int), k ≤ len1 ∧ i = .int .i64 k ∧ z = .int .i64 n ∧ 0 ≤ n ∧ n ≤ 1048576) (fun _ i => len1 - (intOf i).toNat)
            case atStart => exact ⟨0, _, Nat.zero_le _, rfl, rfl, by omega, by omega⟩
            case round =>
              obtain ⟨k1, n1, hk1, rfl, rfl, hn2, hn3⟩ := hrel
              by_cases hlt1 : k1 < len1
              · obtain ⟨hz, fa, fc, h0, hr⟩ := hg
                obtain ⟨b, o, rfl, hb, hc⟩ := h0.resolve_left (by omega)
                have hck := hc k1 hlt1
                generalize (G.getD k1 []).length = q at hck
                clear hc h0 hr hz
                by_cases h2 : (1048576 : Int) < (q : Int)
                · go_wp2
                  go_ret
                  exact ⟨_, rfl, rfl⟩
                · by_cases h3 : (1048576 : Int) < n1 + (q : Int)
                  · go_wp2
                    go_ret
                    exact ⟨_, rfl, rfl⟩
                  · go_wp2
                    go_round
                    case rel => exact ⟨k1 + 1, n1 + (q : Int), by omega, by go_num, rfl, by omega, by omega⟩
                    case measure => simp [intOf]; omega
              · clear hg
                go_wp2
                go_ret
                exact ⟨_, rfl, rfl⟩

end Go.Proofs.Qxb6615643a
