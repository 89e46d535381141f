import Derived.Test.Qxb6615475aRead
namespace Go.Proofs.Qxb6615475a
open Go.RowKit
set_option linter.unusedVariables false

theorem rb_stuck (rb : Nat) (a : Option Addr) (len cap : Nat) (off en : Int) (sec bnd : ByteArray) (q : Addr) (w : World) (h : Rdr rb a len cap off en sec bnd (.iface 36 (.pointer (some q))) w) (n : Int) :
    Calls Try.prog 8 #[.pointer (some ⟨rb, 0, none⟩), .int .i64 n] w fun e w' => e = .returned (.slice none 0 0) ∧ w' = w := by
  have HR : Hid (_) := h
  clear h
  go_enter Try.func8, Try.ntmps8
  go_wp2_with fail
  refine (bytes_stuck rb a len cap off en sec bnd q _ HR.out n).mono ?_
  rintro e w' ⟨rfl, rfl⟩
  go_wp2
  go_ret
  exact ⟨rfl, rfl⟩

theorem rb_fail (rb : Nat) (a : Option Addr) (len cap : Nat) (off en : Int) (sec bnd : ByteArray) (w : World) (h : Rdr rb a len cap off en sec bnd .nilIface w) (n : Int) (h0 : 0 ≤ off) (h1 : off ≤ en) (h2 : en ≤ len) (hl : len ≤ 1048576) (hb : bnd.size ≤ 1048576)
    (hn0 : en < off + n) (hn1 : off + n ≤ 9223372036854775807) :
    Calls Try.prog 8 #[.pointer (some ⟨rb, 0, none⟩), .int .i64 n] w fun e w' => FailEnd rb a len cap off en sec bnd w e w' := by
  have HH : Calls Try.prog 12 #[.pointer (some ⟨rb, 0, none⟩), .int .i64 n] w fun e w' => FailEnd rb a len cap off en sec bnd w e w' := by
    by_cases he : en = (len : Int)
    · subst he
      exact bytes_fail1 rb a len cap off sec bnd w h n h0 h1 hl hn0 hn1
    · cases hbe : bnd.toList.isEmpty with
      | true => exact bytes_fail2 rb a len cap off en sec bnd w h n h0 h1 h2 hl hb (by simpa using he) hn0 hn1 hbe
      | false => exact bytes_fail3 rb a len cap off en sec bnd w h n h0 h1 h2 hl hb (by simpa using he) hn0 hn1 hbe
  have H : Hid (_) := HH
  clear h HH
  go_enter Try.func8, Try.ntmps8
  go_wp2_with fail
  refine Calls.mono H.out ?_
  rintro e w' ⟨rfl, hq⟩
  have HQ : Hid (_) := hq
  clear hq H
  go_wp2
  go_ret
  exact ⟨rfl, HQ.out⟩

theorem rb_ok (rb g o len cap : Nat) (p k : Nat) (en : Int) (sec bnd : ByteArray) (w : World) (h : Rdr rb (some ⟨g, o, none⟩) len cap (p : Int) en sec bnd .nilIface w) (h1 : (p : Int) + (k : Int) ≤ en) (h2 : en ≤ len) (hlc : len ≤ cap) (hl : len ≤ 1048576) :
    Calls Try.prog 8 #[.pointer (some ⟨rb, 0, none⟩), .int .i64 k] w fun e w' => OkEnd rb (some ⟨g, o, none⟩) len cap ((p : Int) + (k : Int)) en sec bnd k (some ⟨g, o + p, none⟩) w e w' := by
  have HR : Hid (_) := h
  clear h
  go_enter Try.func8, Try.ntmps8
  go_wp2_with fail
  refine (bytes_ok rb g o len cap p k en sec bnd _ HR.out h1 h2 hlc hl).mono ?_
  rintro e w' ⟨a', c', rfl, hq⟩
  have HQ : Hid (_) := hq
  clear hq HR
  go_wp2
  go_ret
  exact ⟨a', c', rfl, HQ.out⟩

theorem rb_ok0 (rb : Nat) (sec bnd : ByteArray) (w : World) (h : Rdr rb none 0 0 0 0 sec bnd .nilIface w) :
    Calls Try.prog 8 #[.pointer (some ⟨rb, 0, none⟩), .int .i64 0] w fun e w' => OkEnd rb none 0 0 0 0 sec bnd 0 none w e w' := by
  have HR : Hid (_) := h
  clear h
  go_enter Try.func8, Try.ntmps8
  go_wp2_with fail
  refine (bytes_ok0 rb sec bnd _ HR.out).mono ?_
  rintro e w' ⟨a', c', rfl, hq⟩
  have HQ : Hid (_) := hq
  clear hq HR
  go_wp2
  go_ret
  exact ⟨a', c', rfl, HQ.out⟩

theorem assert_no (w : World) : (Instr.typeAssert .nilIface 32 36 true).run Try.prog w = .ok (.tuple #[.pointer none, .bool false]) w := by kernel_rfl
theorem assert_yes (v : Value) (w : World) : (Instr.typeAssert (.iface 36 v) 32 36 true).run Try.prog w = .ok (.tuple #[v, .bool true]) w := by kernel_rfl

set_option maxHeartbeats 1000000 in
theorem state_nil (rb : Nat) (a : Option Addr) (len cap : Nat) (off en : Int) (sec bnd : ByteArray) (w : World) (h : Rdr rb a len cap off en sec bnd .nilIface w) :
    Calls Try.prog 9 #[.pointer (some ⟨rb, 0, none⟩)] w fun e w' => e = .returned (.tuple #[.int .i64 off, .bool false, .string ⟨#[]⟩, .int .i64 0, .string ⟨#[]⟩]) ∧ w' = w := by
  obtain ⟨c0, c1, c2, c3, c4, c5, f1, f5⟩ := h
  have hn := assert_no
  go_enter Try.func9, Try.ntmps9
  go_wp2
  exact bodyPost_ret (v := .tuple #[.int .i64 off, .bool false, .string ⟨#[]⟩, .int .i64 0, .string ⟨#[]⟩]) (by simp [results, Try.results9, go_sem]) rfl ⟨rfl, rfl⟩

set_option maxHeartbeats 1000000 in
theorem state_err (rb fb : Nat) (a : Option Addr) (len cap : Nat) (off en : Int) (sec bnd why : ByteArray) (o' : Int) (w : World) (h : Rdr rb a len cap off en sec bnd (.iface 36 (.pointer (some ⟨fb, 0, none⟩))) w) (hr : Rec fb sec o' why w) :
    Calls Try.prog 9 #[.pointer (some ⟨rb, 0, none⟩)] w fun e w' => e = .returned (.tuple #[.int .i64 off, .bool true, .string sec, .int .i64 o', .string why]) ∧ w' = w := by
  obtain ⟨c0, c1, c2, c3, c4, c5, f1, f5⟩ := h
  obtain ⟨r0, r1, r2⟩ := hr
  have hn := assert_yes
  go_enter Try.func9, Try.ntmps9
  go_wp2
  exact bodyPost_ret (v := .tuple #[.int .i64 off, .bool true, .string sec, .int .i64 o', .string why]) (by simp [results, Try.results9, go_sem]) rfl ⟨rfl, rfl⟩

end Go.Proofs.Qxb6615475a
