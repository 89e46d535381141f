import Derived.Test.Qxb6615475aBase
import Derived.Deep.RegionHeld
namespace Go.Proofs.Qxb6615475a
open Go.RowKit
set_option linter.unusedVariables false

/-- the reader's six cells -/
structure Rdr (rb : Nat) (a : Option Addr) (len cap : Nat) (off en : Int) (sec bnd : ByteArray) (err : Value) (w : World) : Prop where
  c0 : w.cell? ⟨rb, 0, none⟩ = some (.slice a len cap)
  c1 : w.cell? ⟨rb, 1, none⟩ = some (.int .i64 off)
  c2 : w.cell? ⟨rb, 2, none⟩ = some (.int .i64 en)
  c3 : w.cell? ⟨rb, 3, none⟩ = some (.string sec)
  c4 : w.cell? ⟨rb, 4, none⟩ = some (.string bnd)
  c5 : w.cell? ⟨rb, 5, none⟩ = some err
  f1 : w.frozen? ⟨rb, 1, none⟩ = false
  f5 : w.frozen? ⟨rb, 5, none⟩ = false

/-- the world behind 'fail' -/
def failed (rb : Nat) (sec : ByteArray) (off : Int) (why : ByteArray) (w : World) : World :=
  (w.setCell ⟨rb, 5, none⟩ (.iface 36 (.pointer (some ⟨w.heap.size, 0, none⟩)))).alloc (.cells #[.string sec, .int .i64 off, .string why] 39)

theorem fail_any (rb : Nat) (a : Option Addr) (len cap : Nat) (off en : Int) (sec bnd : ByteArray) (w : World) (h : Rdr rb a len cap off en sec bnd .nilIface w) (why : ByteArray) :
    Calls Try.prog 13 #[.pointer (some ⟨rb, 0, none⟩), .int .i64 off, .string why] w fun e w' => e = .returned (.tuple #[]) ∧ w' = failed rb sec off why w := by
  obtain ⟨c0, c1, c2, c3, c4, c5, f1, f5⟩ := h
  have hlt : rb < w.heap.size := World.block_lt_of_cell? _ _ c0
  clear c0 c1 c2 c4 f1
  go_enter Try.func13, Try.ntmps13
  go_wp2
  go_end0
  exact ⟨rfl, rfl⟩

theorem Rdr.drewN {rb : Nat} {a : Option Addr} {len cap : Nat} {off en : Int} {sec bnd : ByteArray} {err : Value} {w : World} (h : Rdr rb a len cap off en sec bnd err w) (n : Nat) : Rdr rb a len cap off en sec bnd err (w.drewN n) := ⟨h.c0, h.c1, h.c2, h.c3, h.c4, h.c5, h.f1, h.f5⟩

/-- once reading has failed: nil, nothing turns -/
theorem bytes_stuck (rb : Nat) (a : Option Addr) (len cap : Nat) (off en : Int) (sec bnd : ByteArray) (q : Addr) (w : World) (h : Rdr rb a len cap off en sec bnd (.iface 36 (.pointer (some q))) w) (n : Int) :
    Calls Try.prog 12 #[.pointer (some ⟨rb, 0, none⟩), .int .i64 n] w fun e w' => e = .returned (.slice none 0 0) ∧ w' = w := by
  obtain ⟨c0, c1, c2, c3, c4, c5, f1, f5⟩ := h
  go_enter Try.func12, Try.ntmps12
  go_wp2
  go_ret
  exact ⟨rfl, rfl⟩

/-- the record of a failure -/
structure Rec (fb : Nat) (sec : ByteArray) (off : Int) (why : ByteArray) (w : World) : Prop where
  r0 : w.cell? ⟨fb, 0, none⟩ = some (.string sec)
  r1 : w.cell? ⟨fb, 1, none⟩ = some (.int .i64 off)
  r2 : w.cell? ⟨fb, 2, none⟩ = some (.string why)

/-- what 'fail' leaves of the world -/
def FailW (rb : Nat) (a : Option Addr) (len cap : Nat) (off en : Int) (sec bnd why : ByteArray) (w w' : World) : Prop :=
  ∃ fb, Rdr rb a len cap off en sec bnd (.iface 36 (.pointer (some ⟨fb, 0, none⟩))) w' ∧ Rec fb sec off why w' ∧ Below rb w w' ∧ fb < w'.heap.size

theorem failed_end {rb : Nat} {a : Option Addr} {len cap : Nat} {off en : Int} {sec bnd : ByteArray} {w : World} (h : Rdr rb a len cap off en sec bnd .nilIface w) (why : ByteArray) :
    FailW rb a len cap off en sec bnd why w (failed rb sec off why w) := by
  obtain ⟨c0, c1, c2, c3, c4, c5, f1, f5⟩ := h
  have hlt : rb < w.heap.size := World.block_lt_of_cell? _ _ c0
  refine ⟨w.heap.size, ?_, ?_, ?_, ?_⟩
  · unfold failed
    constructor
    · go_simp
    · go_simp
    · go_simp
    · go_simp
    · go_simp
    · go_simp
    · go_simp
    · go_simp
  · unfold failed
    constructor
    · go_simp
    · go_simp
    · go_simp
  · unfold failed
    have h1 : Below rb w (w.setCell ⟨rb, 5, none⟩ (.iface 36 (.pointer (some ⟨w.heap.size, 0, none⟩)))) := (Below.refl rb w).setCell (p := ⟨rb, 5, none⟩) (Nat.le_refl rb) _
    exact h1.alloc (Nat.le_trans (Nat.le_of_lt hlt) h1.size) _
  · unfold failed
    go_simp

theorem fail_calls (rb : Nat) (a : Option Addr) (len cap : Nat) (off en : Int) (sec bnd : ByteArray) (w : World) (h : Rdr rb a len cap off en sec bnd .nilIface w) (why : ByteArray) :
    Calls Try.prog 13 #[.pointer (some ⟨rb, 0, none⟩), .int .i64 off, .string why] w fun e w' => e = .returned (.tuple #[]) ∧ FailW rb a len cap off en sec bnd why w w' :=
  (fail_any rb a len cap off en sec bnd w h why).mono fun e w' ⟨he, hw⟩ => ⟨he, by rw [hw]; exact failed_end h why⟩

/-- what a failing read leaves -/
def FailEnd (rb : Nat) (a : Option Addr) (len cap : Nat) (off en : Int) (sec bnd : ByteArray) (w : World) (e : Ending) (w' : World) : Prop :=
  e = .returned (.slice none 0 0) ∧ ∃ why, why.toList.isEmpty = false ∧ FailW rb a len cap off en sec bnd why w w'

theorem FailW.of_drewN {rb : Nat} {a : Option Addr} {len cap : Nat} {off en : Int} {sec bnd why : ByteArray} {w w' : World} {n : Nat} (h : FailW rb a len cap off en sec bnd why (w.drewN n) w') : FailW rb a len cap off en sec bnd why w w' := by
  obtain ⟨fb, h1, h2, h3, h4⟩ := h
  exact ⟨fb, h1, h2, (below_drewN (Below.refl _ _) n).trans h3, h4⟩

theorem nonempty_of_size {s : ByteArray} (h : 0 < s.size) : s.toList.isEmpty = false := by
  rw [ByteArray.toList_eq]
  rw [List.isEmpty_eq_false_iff_exists_mem]
  exact ⟨s.data[0], by simp⟩

theorem pre_pos (b : ByteArray) : 0 < (ByteArray.mk #[102, 105, 101, 108, 100, 32, 114, 117, 110, 115, 32, 112, 97, 115, 116, 32] ++ b).size := by
  rw [ByteArray.size_append]
  show 0 < 16 + b.size
  omega

set_option maxHeartbeats 1000000 in
theorem bytes_fail1 (rb : Nat) (a : Option Addr) (len cap : Nat) (off : Int) (sec bnd : ByteArray) (w : World) (h : Rdr rb a len cap off (len : Int) sec bnd .nilIface w) (n : Int) (h0 : 0 ≤ off) (h1 : off ≤ len) (hl : len ≤ 1048576)
    (hn0 : (len : Int) < off + n) (hn1 : off + n ≤ 9223372036854775807) :
    Calls Try.prog 12 #[.pointer (some ⟨rb, 0, none⟩), .int .i64 n] w fun e w' => FailEnd rb a len cap off (len : Int) sec bnd w e w' := by
  have HR : Hid (Rdr rb a len cap off (len : Int) sec bnd .nilIface w) := h
  obtain ⟨c0, c1, c2, c3, c4, c5, f1, f5⟩ := h
  go_enter Try.func12, Try.ntmps12
  go_wp2
  go_quiet (fail)
  obtain ⟨n1, rfl⟩ : ∃ n1 : Nat, n1 = nq := ⟨_, rfl⟩
  go_wp2
  go_quiet (fail)
  go_wp2_with fail
  refine (fail_calls rb a len cap off (len : Int) sec bnd _ (HR.out.drewN _) _).mono ?_
  rintro e w' ⟨rfl, hF⟩
  go_wp2
  go_ret
  exact ⟨rfl, _, nonempty_of_size (by decide), hF.of_drewN⟩

set_option maxHeartbeats 1000000 in
theorem bytes_fail2 (rb : Nat) (a : Option Addr) (len cap : Nat) (off en : Int) (sec bnd : ByteArray) (w : World) (h : Rdr rb a len cap off en sec bnd .nilIface w) (n : Int) (h0 : 0 ≤ off) (h1 : off ≤ en) (h2 : en ≤ len) (hl : len ≤ 1048576) (hb : bnd.size ≤ 1048576) (he : (en == (len : Int)) = false)
    (hn0 : en < off + n) (hn1 : off + n ≤ 9223372036854775807) (hbe : bnd.toList.isEmpty = true) :
    Calls Try.prog 12 #[.pointer (some ⟨rb, 0, none⟩), .int .i64 n] w fun e w' => FailEnd rb a len cap off en sec bnd w e w' := by
  have HR : Hid (Rdr rb a len cap off en sec bnd .nilIface w) := h
  obtain ⟨c0, c1, c2, c3, c4, c5, f1, f5⟩ := h
  go_enter Try.func12, Try.ntmps12
  go_wp2
  go_quiet (fail)
  obtain ⟨n1, rfl⟩ : ∃ n1 : Nat, n1 = nq := ⟨_, rfl⟩
  go_wp2
  go_quiet (fail)
  go_wp2_with fail
  refine (fail_calls rb a len cap off en sec bnd _ (HR.out.drewN _) _).mono ?_
  rintro e w' ⟨rfl, hF⟩
  go_wp2
  go_ret
  exact ⟨rfl, _, nonempty_of_size (by decide), hF.of_drewN⟩

set_option maxHeartbeats 1000000 in
theorem bytes_fail3 (rb : Nat) (a : Option Addr) (len cap : Nat) (off en : Int) (sec bnd : ByteArray) (w : World) (h : Rdr rb a len cap off en sec bnd .nilIface w) (n : Int) (h0 : 0 ≤ off) (h1 : off ≤ en) (h2 : en ≤ len) (hl : len ≤ 1048576) (hb : bnd.size ≤ 1048576) (he : (en == (len : Int)) = false)
    (hn0 : en < off + n) (hn1 : off + n ≤ 9223372036854775807) (hbe : bnd.toList.isEmpty = false) :
    Calls Try.prog 12 #[.pointer (some ⟨rb, 0, none⟩), .int .i64 n] w fun e w' => FailEnd rb a len cap off en sec bnd w e w' := by
  have HR : Hid (Rdr rb a len cap off en sec bnd .nilIface w) := h
  have hadd : ∀ w, (Op.stringOp .add ⟨#[102, 105, 101, 108, 100, 32, 114, 117, 110, 115, 32, 112, 97, 115, 116, 32]⟩ bnd).run Try.prog w = .ok (.string (⟨#[102, 105, 101, 108, 100, 32, 114, 117, 110, 115, 32, 112, 97, 115, 116, 32]⟩ ++ bnd)) w :=
    fun w => run_string_add_sum w _ _ (by have : (ByteArray.mk #[102, 105, 101, 108, 100, 32, 114, 117, 110, 115, 32, 112, 97, 115, 116, 32]).size = 16 := rfl; omega)
  obtain ⟨c0, c1, c2, c3, c4, c5, f1, f5⟩ := h
  go_enter Try.func12, Try.ntmps12
  go_wp2
  go_quiet (fail)
  obtain ⟨n1, rfl⟩ : ∃ n1 : Nat, n1 = nq := ⟨_, rfl⟩
  go_wp2
  go_quiet (fail)
  go_wp2_with fail
  go_region_held (fun w' => w'.cell? ⟨rb, 1, none⟩ = some (.int .i64 off) ∧ w'.cell? ⟨rb, 4, none⟩ = some (.string bnd)) (go_keep) ((go_at_call 13; refine (fail_calls rb a len cap off en sec bnd _ (HR.out.drewN _) _).mono ?_; rintro e w' ⟨rfl, fb, hR, hRc, hB, hfb⟩; have k1 := hR.c1; have k4 := hR.c4))
  go_wp2
  go_ret
  exact ⟨rfl, _, nonempty_of_size (pre_pos bnd), FailW.of_drewN ⟨fb, hR, hRc, hB, hfb⟩⟩

theorem Rdr.moved {rb : Nat} {a : Option Addr} {len cap : Nat} {off en : Int} {sec bnd : ByteArray} {err : Value} {w : World} (h : Rdr rb a len cap off en sec bnd err w) (off' : Int) :
    Rdr rb a len cap off' en sec bnd err (w.setCell ⟨rb, 1, none⟩ (.int .i64 off')) ∧ Below rb w (w.setCell ⟨rb, 1, none⟩ (.int .i64 off')) := by
  refine ⟨?_, (Below.refl rb w).setCell (p := ⟨rb, 1, none⟩) (Nat.le_refl rb) _⟩
  obtain ⟨c0, c1, c2, c3, c4, c5, f1, f5⟩ := h
  constructor
  · go_simp
  · go_simp
  · go_simp
  · go_simp
  · go_simp
  · go_simp
  · go_simp
  · go_simp

/-- what a read that fits leaves: the reader has moved on, the piece lies at its place -/
def OkEnd (rb : Nat) (a : Option Addr) (len cap : Nat) (off' en : Int) (sec bnd : ByteArray) (k : Nat) (ad : Option Addr) (w : World) (e : Ending) (w' : World) : Prop :=
  ∃ a' c', e = .returned (.slice a' k c') ∧ (0 < k → a' = ad) ∧ Rdr rb a len cap off' en sec bnd .nilIface w' ∧ Below rb w w'

theorem ok_end {rb : Nat} {a : Option Addr} {len cap : Nat} {off off' en : Int} {sec bnd : ByteArray} {w : World} (h : Rdr rb a len cap off en sec bnd .nilIface w) (k L : Nat) (ad a' : Option Addr) (c' n m : Nat) (ha : 0 < k → a' = ad) (hL : L = k) :
    OkEnd rb a len cap off' en sec bnd k ad w (.returned (.slice a' L c')) (((w.drewN n).setCell ⟨rb, 1, none⟩ (.int .i64 off')).drewN m) :=
  ⟨a', c', by rw [hL], ha, ((h.drewN n).moved off').1.drewN m, below_drewN ((below_drewN (Below.refl _ _) n).trans ((h.drewN n).moved off').2) m⟩

set_option maxHeartbeats 1000000 in
theorem bytes_ok (rb g o len cap : Nat) (p k : Nat) (en : Int) (sec bnd : ByteArray) (w : World) (h : Rdr rb (some ⟨g, o, none⟩) len cap (p : Int) en sec bnd .nilIface w) (h1 : (p : Int) + (k : Int) ≤ en) (h2 : en ≤ len) (hlc : len ≤ cap) (hl : len ≤ 1048576) :
    Calls Try.prog 12 #[.pointer (some ⟨rb, 0, none⟩), .int .i64 k] w fun e w' => OkEnd rb (some ⟨g, o, none⟩) len cap ((p : Int) + (k : Int)) en sec bnd k (some ⟨g, o + p, none⟩) w e w' := by
  have HR : Hid (Rdr rb (some ⟨g, o, none⟩) len cap (p : Int) en sec bnd .nilIface w) := h
  obtain ⟨c0, c1, c2, c3, c4, c5, f1, f5⟩ := h
  by_cases hcp : cap = p
  · subst hcp
    have hk0 : k ≤ 0 := by omega
    go_enter Try.func12, Try.ntmps12
    go_wp2
    go_quiet (fail)
    obtain ⟨n1, rfl⟩ : ∃ n1 : Nat, n1 = nq := ⟨_, rfl⟩
    go_wp2
    go_quiet (fail)
    go_wp2
    go_ret
    exact ok_end HR.out k _ _ _ _ n1 nq (fun h => by omega) (by omega)
  · go_enter Try.func12, Try.ntmps12
    go_wp2
    go_quiet (fail)
    obtain ⟨n1, rfl⟩ : ∃ n1 : Nat, n1 = nq := ⟨_, rfl⟩
    go_wp2
    go_quiet (fail)
    go_wp2
    go_ret
    exact ok_end HR.out k _ _ _ _ n1 nq (fun _ => rfl) (by omega)

set_option maxHeartbeats 1000000 in
theorem bytes_ok0 (rb : Nat) (sec bnd : ByteArray) (w : World) (h : Rdr rb none 0 0 0 0 sec bnd .nilIface w) :
    Calls Try.prog 12 #[.pointer (some ⟨rb, 0, none⟩), .int .i64 0] w fun e w' => OkEnd rb none 0 0 0 0 sec bnd 0 none w e w' := by
  have HR : Hid (Rdr rb none 0 0 0 0 sec bnd .nilIface w) := h
  obtain ⟨c0, c1, c2, c3, c4, c5, f1, f5⟩ := h
  go_enter Try.func12, Try.ntmps12
  go_wp2
  go_quiet (fail)
  obtain ⟨n1, rfl⟩ : ∃ n1 : Nat, n1 = nq := ⟨_, rfl⟩
  go_wp2
  go_quiet (fail)
  go_wp2
  go_ret
  exact ok_end HR.out 0 _ _ _ _ n1 nq (fun _ => rfl) rfl

end Go.Proofs.Qxb6615475a
