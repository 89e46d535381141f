import Derived.Test.Qxb6615475aState
namespace Go.Proofs.Qxb6615475a
open Go.RowKit
set_option linter.unusedVariables false

set_option maxHeartbeats 1000000 in
theorem bytes_okA (rb : Nat) (a : Option Addr) (len cap : Nat) (p k : Nat) (en : Int) (sec bnd : ByteArray) (w : World) (h : Rdr rb a len cap (p : Int) en sec bnd .nilIface w) (h1 : (p : Int) + (k : Int) ≤ en) (h2 : en ≤ len) (hlc : len ≤ cap) (hl : len ≤ 1048576) :
    Calls Try.prog 12 #[.pointer (some ⟨rb, 0, none⟩), .int .i64 k] w fun e w' => OkEnd rb a len cap ((p : Int) + (k : Int)) en sec bnd k (a.map (·.add p)) w e w' := by
  have HR : Hid (Rdr rb a len cap (p : Int) en sec bnd .nilIface w) := h
  obtain ⟨c0, c1, c2, c3, c4, c5, f1, f5⟩ := h
  by_cases hcp : cap = p
  · subst hcp
    have hk0 : k ≤ 0 := by omega
    go_enter Try.func12, Try.ntmps12
    go_wp2
    go_quiet (fail)
    obtain ⟨n1, rfl⟩ : ∃ n1 : Nat, n1 = nq := ⟨_, rfl⟩
    go_wp2
    go_quiet (fail)
    go_wp2
    go_ret
    exact ok_end HR.out k _ _ _ _ n1 nq (fun h => by omega) (by omega)
  · go_enter Try.func12, Try.ntmps12
    go_wp2
    go_quiet (fail)
    obtain ⟨n1, rfl⟩ : ∃ n1 : Nat, n1 = nq := ⟨_, rfl⟩
    go_wp2
    go_quiet (fail)
    go_wp2
    go_ret
    exact ok_end HR.out k _ _ _ _ n1 nq (fun _ => rfl) (by omega)

theorem rb_okA (rb : Nat) (a : Option Addr) (len cap : Nat) (p k : Nat) (en : Int) (sec bnd : ByteArray) (w : World) (h : Rdr rb a len cap (p : Int) en sec bnd .nilIface w) (h1 : (p : Int) + (k : Int) ≤ en) (h2 : en ≤ len) (hlc : len ≤ cap) (hl : len ≤ 1048576) :
    Calls Try.prog 8 #[.pointer (some ⟨rb, 0, none⟩), .int .i64 k] w fun e w' => OkEnd rb a len cap ((p : Int) + (k : Int)) en sec bnd k (a.map (·.add p)) w e w' := by
  have HR : Hid (_) := h
  clear h
  go_enter Try.func8, Try.ntmps8
  go_wp2_with fail
  refine (bytes_okA rb a len cap p k en sec bnd _ HR.out h1 h2 hlc hl).mono ?_
  rintro e w' ⟨a', c', rfl, hq⟩
  have HQ : Hid (_) := hq
  clear hq HR
  go_wp2
  go_ret
  exact ⟨a', c', rfl, HQ.out⟩


theorem seg_cut {w : World} {a a' : Option Addr} {len p k : Nat} {zs : List Int} (h : Seg w a len zs) (hpk : p + k ≤ len) (ha : 0 < k → a' = a.map (·.add p)) : Seg w a' k ((zs.drop p).take k) := by
  obtain ⟨hz, h⟩ := h
  refine ⟨by simp; omega, ?_⟩
  by_cases hk : k = 0
  · exact .inl hk
  · obtain ⟨b, o, rfl, hb, hc⟩ := h.resolve_left (by omega)
    refine .inr ⟨b, o + p, ?_, hb, fun i hi => ?_⟩
    · rw [ha (by omega)]
      simp [Addr.add_lit]
    · rw [Nat.add_assoc, hc (p + i) (by omega)]
      simp [List.getD, hi]

theorem seg_cut_if {w : World} {a : Option Addr} {len cap p k : Nat} {zs : List Int} (h : Seg w a len zs) (hlc : len ≤ cap) (hpk : p + k ≤ len) : Seg w (if cap = p then a else a.map (·.add p)) k ((zs.drop p).take k) :=
  seg_cut h hpk fun hk => by rw [if_neg (by omega)]

end Go.Proofs.Qxb6615475a
