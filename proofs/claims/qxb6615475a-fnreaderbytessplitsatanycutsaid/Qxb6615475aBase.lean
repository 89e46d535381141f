import Derived.Test.Qxb6615475aRows
import Derived.WalkKit
import Derived.WalkSpells
import Derived.WalkSmall
import Derived.Deep.QuietTactic
import Derived.BigQuiet
import Derived.Lib.SliceRun
namespace Go.Proofs.Qxb6615475a
open Go.RowKit
set_option linter.unusedVariables false

theorem ret_bool {a b : Bool} (h : a = b) : Ending.returned (.bool a) = .returned (.bool b) := by rw [h]

/-- The slice at 'a' of 'len' bytes reads as 'zs'. -/
def Seg (w : World) (a : Option Addr) (len : Nat) (zs : List Int) : Prop :=
  zs.length = len ∧ (len = 0 ∨ ∃ b o, a = some ⟨b, o, none⟩ ∧ b < w.heap.size ∧ ∀ i, i < len → w.cell? ⟨b, o + i, none⟩ = some (.int .u8 (zs.getD i 0)))

theorem Try.info5 : (Try.prog.info? 5).map (fun i => (i.zero, i.size, i.bytes)) = some (some (.int .u8 0), 1, 1) := by kernel_rfl

theorem Seg.below {w w' : World} {a : Option Addr} {len : Nat} {zs : List Int} (h : Seg w a len zs) (hb : Below w.heap.size w w') : Seg w' a len zs := by
  obtain ⟨hz, h0 | ⟨b, o, rfl, hlt, hc⟩⟩ := h
  · exact ⟨hz, .inl h0⟩
  · exact ⟨hz, .inr ⟨b, o, rfl, Nat.lt_of_lt_of_le hlt hb.size, fun i hi => (hb.cell (p := ⟨b, o + i, none⟩) hlt).trans (hc i hi)⟩⟩

/-- what has been copied after k rounds -/
def part (zs : List Int) (len k : Nat) : List Value := (zs.take k ++ List.replicate (len - k) 0).map (Value.int .u8)

theorem part_zero (zs : List Int) (len : Nat) : part zs len 0 = (madeCells (Value.int .u8 0).cells (len * 1)).toList := by
  show _ = (madeCells #[Value.int .u8 0] (len * 1)).toList
  rw [toList_madeCells_one]
  simp [part]

theorem part_len (zs : List Int) (len : Nat) (h : zs.length = len) : part zs len len = zs.map (Value.int .u8) := by
  subst h
  simp [part]

theorem part_set (zs : List Int) (len k : Nat) (hz : zs.length = len) (h : k < len) : (part zs len k).set k (.int .u8 (zs[k]?.getD 0)) = part zs len (k + 1) := by
  have hk : k < zs.length := by omega
  have e : len - k = (len - (k + 1)) + 1 := by omega
  simp only [part]
  rw [List.take_succ_eq_append_getElem hk, e, List.replicate_succ]
  simp only [List.map_append, List.map_cons, List.map_nil]
  rw [List.set_append_right _ _ (by simp; omega)]
  simp [Nat.min_eq_left (Nat.le_of_lt hk), hk]

theorem seg_of_owns {w : World} {B len : Nat} {zs : List Int} (hz : zs.length = len) {g : Nat} {cap : Nat}
    (h : w.ownsRow B 5 1 (.slice (some ⟨g, 0, none⟩) len cap) len (zs.map (Value.int .u8))) : Seg w (some ⟨g, 0, none⟩) len zs := by
  refine ⟨hz, .inr ⟨g, 0, rfl, ?_, fun i hi => ?_⟩⟩
  · rcases h.2 with ⟨h', _⟩ | ⟨g', cap', cur, h', _, hg, _⟩
    · simp at h'
    · simp only [Value.slice.injEq, Option.some.injEq, Addr.mk.injEq, and_true, true_and] at h'
      obtain ⟨rfl, rfl⟩ := h'
      exact lt_of_block hg
  · have := h.cellAt i (by omega)
    rw [Nat.zero_add, this]
    simp [List.getD, show i < zs.length by omega]

def Cloned (len : Nat) (zs : List Int) (w : World) (e : Ending) (w' : World) : Prop :=
  ∃ a' cap', e = .returned (.slice a' len cap') ∧ (a' = none → len = 0) ∧ len ≤ cap' ∧ Seg w' a' len zs ∧ Below w.heap.size w w'

theorem clone_any (a : Option Addr) (len cap : Nat) (zs : List Int) (w : World) (hs : Seg w a len zs) (hn : a = none → len = 0) (hl : len ≤ 2097152) :
    Calls Try.prog 7 #[.slice a len cap] w fun e w' => Cloned len zs w e w' := by
  have q22 : ∀ (w : World) (a : Option Addr) (n c n' c' : Nat), (binOp .eql 22 (.slice a n c) (.slice none n' c')).run Try.prog w = .ok (.bool a.isNone) w := fun w a n c n' c' => Lib.run_eql_slice_nil w _ _ a n c n' c' Try.underlying22
  obtain ⟨i0, hi, hz0, hz1, hz2⟩ := info_parts Try.info5
  cases a with
  | none =>
    obtain rfl := hn rfl
    go_enter Try.func7, Try.ntmps7
    go_wp2
    go_ret
    exact ⟨none, 0, rfl, fun _ => rfl, Nat.le_refl _, ⟨hs.1, .inl rfl⟩, Below.refl _ _⟩
  | some x =>
    obtain ⟨hz, h0 | ⟨b, o, hx, hb, hc⟩⟩ := hs
    · subst h0
      clear hn
      go_enter Try.func7, Try.ntmps7
      go_wp2_with (at_make; refine wpList_make_full _ rfl _ _ 22 rfl w.heap.size 5 i0 (.int .u8 0) 1 Try.underlying22 hi hz0 hz1 _ _ _ _ 0 rfl rfl rfl rfl (by omega) (by decide) (Nat.le_refl _) ?_; intro w1 hown hgrow)
      refine wp_loop_rounds 1 ?_
      rw [rounds_succ]
      go_wp2
      go_ret
      exact ⟨_, _, rfl, fun _ => rfl, Nat.le_refl _, ⟨hz, .inl rfl⟩, (Below.refl _ _).grown hgrow (Nat.le_refl _) (fun k e => by cases e)⟩
    · obtain rfl := Option.some.inj hx
      clear hn hx
      go_enter Try.func7, Try.ntmps7
      go_wp2_with (at_make; refine wpList_make_full _ rfl _ _ 22 rfl w.heap.size 5 i0 (.int .u8 0) 1 Try.underlying22 hi hz0 hz1 _ _ _ _ len rfl rfl rfl rfl (by rw [hz2]; omega) (by unfold maxLen; omega) (Nat.le_refl _) ?_; intro w1 hown hgrow)
      rw [← part_zero zs len] at hown
      go_loopw [4] (fun i wr => ∃ k : Nat, k ≤ len ∧ i = .int .i64 k ∧ wr.ownsRow w.heap.size 5 1 (.slice (some ⟨w.heap.size, 0, none⟩) len len) len (part zs len k) ∧ Below w.heap.size w wr) (fun i _ => len - (intOf i).toNat)
      case atStart => exact ⟨0, Nat.zero_le _, rfl, hown, (Below.refl _ _).grown hgrow (Nat.le_refl _) (fun k e => by cases e)⟩
      case round =>
        obtain ⟨k, hk, rfl, hown, hbel⟩ := hrel
        have HZ : Hid (zs.length = len) := hz
        clear hz
        by_cases hlt : k < len
        · have hck : wr.cell? ⟨b, o + k, none⟩ = some (.int .u8 (zs.getD k 0)) := (hbel.cell (p := ⟨b, o + k, none⟩) hb).trans (hc k hlt)
          clear hc
          have hfz := hown.frozenAt k
          have hst := hown.stored k (.int .u8 (zs[k]?.getD 0))
          rw [part_set zs len k HZ.out hlt] at hst
          have HO : Hid (wr.ownsRow w.heap.size 5 1 (.slice (some ⟨w.heap.size, 0, none⟩) len len) len (part zs len k)) := hown
          have HS := (show Hid _ from hst)
          obtain ⟨cv, hcv⟩ : ∃ v, wr.cell? ⟨w.heap.size, k, none⟩ = some (.int .u8 v) := by
            rw [hown.cellAt k (by omega)]
            have hlp : (part zs len k).length = len := by have := hown.1; omega
            rw [List.getElem?_eq_getElem (by omega)]
            simp only [part, List.getElem_map]
            exact ⟨_, rfl⟩
          clear hst hown
          go_wp2
          go_roundw
          case rel => exact ⟨k + 1, by omega, by go_num, HS.out.1, hbel.setCell (Nat.le_refl _) _⟩
          case measure => simp [intOf]; omega
        · clear hc
          obtain rfl : k = len := by omega
          rw [part_len zs _ HZ.out] at hown
          have hsg := seg_of_owns HZ.out hown
          clear hown
          go_wp2
          go_ret
          exact ⟨_, _, rfl, fun h => by simp at h, Nat.le_refl _, hsg, hbel⟩

def Quiet (v : Bool) (w : World) (e : Ending) (w' : World) : Prop := e = .returned (.bool v) ∧ ∃ n, w' = w.drewN n

set_option maxHeartbeats 1000000 in
theorem eq_any (a : Option Addr) (ls c : Nat) (zs : List Int) (a' : Option Addr) (c' : Nat) (w : World) (hs : Seg w a ls zs) (hs' : Seg w a' ls zs) (hl : ls ≤ 2097152) :
    Calls Try.prog 10 #[.slice a ls c, .slice a' ls c'] w fun e w' => Quiet true w e w' := by
  by_cases h0 : ls = 0
  · subst h0
    go_enter Try.func10, Try.ntmps10
    go_wp2
    refine wp_loop_rounds 1 ?_
    rw [rounds_succ]
    go_wp2
    go_ret
    exact ⟨rfl, 0, rfl⟩
  · obtain ⟨b, o, rfl, hb, hc⟩ := hs.2.resolve_left h0
    obtain ⟨b', o', rfl, hb', hc'⟩ := hs'.2.resolve_left h0
    clear hs hs'
    go_enter Try.func10, Try.ntmps10
    go_wp2
    go_loopw [5] (fun i wr => ∃ k n : Nat, k ≤ ls ∧ i = .int .i64 k ∧ wr = w.drewN n) (fun i _ => ls - (intOf i).toNat)
    case atStart => exact ⟨0, 0, Nat.zero_le _, rfl, rfl⟩
    case round =>
      obtain ⟨k, n, hk, rfl, rfl⟩ := hrel
      by_cases hlt : k < ls
      · have h1 := hc k hlt
        have h2 := hc' k hlt
        clear hc hc'
        go_wp2
        go_quiet (fail)
        go_wp2
        go_roundw
        case rel => exact ⟨k + 1, n + nq, by omega, by go_num, rfl⟩
        case measure => simp [intOf]; omega
      · clear hc hc'
        go_wp2
        go_ret
        exact ⟨rfl, n, rfl⟩

theorem zzA_any (a : Option Addr) (len cap : Nat) (o e' : Int) (s b : ByteArray) (n1 n2 : Int) (w : World) (hm : len ≤ 9223372036854775807) (hs : s.size ≤ 9223372036854775807) (hb : b.size ≤ 9223372036854775807) :
    Calls Try.prog 5 #[.slice a len cap, .int .i64 o, .int .i64 e', .string s, .string b, .int .i64 n1, .int .i64 n2] w fun e w' => e = .returned (.bool (decide (len + s.size + b.size ≤ 1048576))) ∧ w' = w := by
  by_cases h1 : (1048576 : Int) < (len : Int)
  · go_enter Try.func5, Try.ntmps5
    go_wp2
    go_ret
    exact ⟨ret_bool (by simp; omega), rfl⟩
  · by_cases h2 : (1048576 : Int) < (s.size : Int)
    · go_enter Try.func5, Try.ntmps5
      go_wp2
      go_ret
      exact ⟨ret_bool (by simp; omega), rfl⟩
    · by_cases h3 : (1048576 : Int) < (len : Int) + (s.size : Int)
      · go_enter Try.func5, Try.ntmps5
        go_wp2
        go_ret
        exact ⟨ret_bool (by simp; omega), rfl⟩
      · by_cases h4 : (1048576 : Int) < (b.size : Int)
        · go_enter Try.func5, Try.ntmps5
          go_wp2
          go_ret
          exact ⟨ret_bool (by simp; omega), rfl⟩
        · by_cases h5 : (1048576 : Int) < (len : Int) + (s.size : Int) + (b.size : Int)
          · go_enter Try.func5, Try.ntmps5
            go_wp2
            go_ret
            exact ⟨ret_bool (by simp; omega), rfl⟩
          · go_enter Try.func5, Try.ntmps5
            go_wp2
            go_ret
            exact ⟨ret_bool (by simp; omega), rfl⟩

theorem zzB_any (a : Option Addr) (len cap : Nat) (o e' : Int) (s b : ByteArray) (n1 n2 : Int) (w : World) (hm : len ≤ 9223372036854775807) (hs : s.size ≤ 9223372036854775807) (hb : b.size ≤ 9223372036854775807) :
    Calls Try.prog 11 #[.slice a len cap, .int .i64 o, .int .i64 e', .string s, .string b, .int .i64 n1, .int .i64 n2] w fun e w' => e = .returned (.bool (decide (len + s.size + b.size ≤ 1048576))) ∧ w' = w := by
  by_cases h1 : (1048576 : Int) < (len : Int)
  · go_enter Try.func11, Try.ntmps11
    go_wp2
    go_ret
    exact ⟨ret_bool (by simp; omega), rfl⟩
  · by_cases h2 : (1048576 : Int) < (s.size : Int)
    · go_enter Try.func11, Try.ntmps11
      go_wp2
      go_ret
      exact ⟨ret_bool (by simp; omega), rfl⟩
    · by_cases h3 : (1048576 : Int) < (len : Int) + (s.size : Int)
      · go_enter Try.func11, Try.ntmps11
        go_wp2
        go_ret
        exact ⟨ret_bool (by simp; omega), rfl⟩
      · by_cases h4 : (1048576 : Int) < (b.size : Int)
        · go_enter Try.func11, Try.ntmps11
          go_wp2
          go_ret
          exact ⟨ret_bool (by simp; omega), rfl⟩
        · by_cases h5 : (1048576 : Int) < (len : Int) + (s.size : Int) + (b.size : Int)
          · go_enter Try.func11, Try.ntmps11
            go_wp2
            go_ret
            exact ⟨ret_bool (by simp; omega), rfl⟩
          · go_enter Try.func11, Try.ntmps11
            go_wp2
            go_ret
            exact ⟨ret_bool (by simp; omega), rfl⟩

end Go.Proofs.Qxb6615475a
