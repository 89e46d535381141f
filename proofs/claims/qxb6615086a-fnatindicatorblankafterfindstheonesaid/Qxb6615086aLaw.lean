import Derived.Test.Qxb6615086aInd
namespace Go.Proofs.Qxb6615086a
open Go.RowKit
set_option linter.unusedVariables false

theorem Try.info5 : (Try.prog.info? 5).map (fun i => (i.zero, i.size, i.bytes)) = some (some (.int .u8 0), 1, 1) := by kernel_rfl

def Good (w : World) (e : Ending) (w' : World) : Prop := e = .returned (.bool true) ∧ Below w.heap.size w w'

theorem row_of_owns {w : World} {B n g : Nat} {xs : List Value} (h : w.ownsRow B 5 1 (.slice (some ⟨g, 0, none⟩) n n) n xs) : w.heap[g]? = some (.cells xs.toArray 5 (0, 0)) := by
  rcases h.2 with ⟨h', _⟩ | ⟨g', cap', cur, h', _, hg, hnc, hcm, hcs, htake⟩
  · simp at h'
  · simp only [Value.slice.injEq, Option.some.injEq, Addr.mk.injEq, and_true, true_and] at h'
    obtain ⟨rfl, rfl⟩ := h'
    rw [hg, ← htake, List.take_of_length_le (by simp [hcs])]

theorem splice_full {α : Type} (L cs : List α) (h : L.length = cs.length) : splice L 0 cs = cs := by
  simp [splice, ← h]

theorem cell_of_list {w : World} {g : Nat} {zs : List Int} (h : w.heap[g]? = some (.cells (zs.map (Value.int .u8)).toArray 5 (0, 0))) (i : Nat) (hi : i < zs.length) : w.cell? ⟨g, i, none⟩ = some (.int .u8 (zs.getD i 0)) := by
  rw [cell_of_row w g i _ 5 (0, 0) h]
  simp [List.getD, hi]

theorem copy_src {w w1 : World} {b o len : Nat} {zs : List Int} (hz : zs.length = len) (hb : b < w.heap.size) (hc : ∀ i, i < len → w.cell? ⟨b, o + i, none⟩ = some (.int .u8 (zs.getD i 0))) (hbel : Below w.heap.size w w1) :
    ∀ j v, (zs.map (Value.int .u8))[j]? = some v → w1.cell? ((⟨b, o, none⟩ : Addr).add j) = some v := by
  intro j v hv
  have hj : j < zs.length := by simpa using (List.getElem?_eq_some_iff.1 hv).1
  rw [Addr.add_lit, hbel.cell (p := ⟨b, o + j, none⟩) hb, hc j (by omega), ← hv]
  simp [List.getD, hj]

theorem owns_len {w : World} {B n : Nat} {v : Value} {xs : List Value} (h : w.ownsRow B 5 1 v n xs) : xs.length = n := by
  have := h.1
  omega

/-- the new row holds L, k bytes so far, room for n; below it nothing has turned -/
def Ins (B n : Nat) (w2 : World) (k : Nat) (L : List Int) (wr : World) : Prop :=
  wr.ownsRow B 5 1 (.slice (some ⟨B, 0, none⟩) k n) k (L.map (Value.int .u8)) ∧ Below B w2 wr ∧ B ≤ wr.heap.size

theorem Ins.step {B n : Nat} {w2 : World} {k : Nat} {L : List Int} {wr w4 : World} {z : Int} {ob : Obj} (h : Ins B n w2 k L wr)
    (h4 : w4.ownsRow B 5 1 (.slice (some ⟨B, 0, none⟩) (k + 1) n) (k + 1) (L.map (Value.int .u8) ++ [.int .u8 z])) (hg : (wr.alloc ob).grownBy w4 (some B)) : Ins B n w2 (k + 1) (L ++ [z]) w4 := by
  refine ⟨by simpa using h4, (h.2.1.alloc h.2.2 _).grown hg (by have := h.2.2; simp; omega) (fun j e => by cases e; exact Nat.le_refl _), ?_⟩
  have := hg.size
  have := h.2.2
  simp at *
  omega

theorem take_snoc (zs : List Int) (k : Nat) (h : k < zs.length) : zs.take (k + 1) = zs.take k ++ [zs[k]?.getD 0] := by
  rw [List.take_succ_eq_append_getElem h]
  simp [h]

theorem one_cell (z : Int) : ∀ u ∈ [Value.int .u8 z], u.oneCell' = true := by
  intro u hu
  simp at hu
  subst hu
  rfl

/-- a reader laid by ZZnewYamlReader -/
theorem rd_new (w : World) (g b o len cap p : Nat) (rest : List Value) (l : Value) (hg : g = w.heap.size) :
    Rd g b o len cap p (w.alloc (Obj.cells (l :: .slice (some ⟨b, o, none⟩) len cap :: .int .i64 p :: rest).toArray 34)) := by
  constructor
  · rw [World.cell?_alloc_at (hn := hg)]; simp
  · rw [World.cell?_alloc_at (hn := hg)]; simp

theorem zzAt_bel (rb b o len cap p : Nat) (d c x : Int) (w : World) (v : Bool) (hr : Rd rb b o len cap p w) (hp : p < len) (hl : len ≤ 2097152) (hc : w.cell? ⟨b, o + p, none⟩ = some (.int .u8 d)) (hx : p + 1 < len → w.cell? ⟨b, o + (p + 1), none⟩ = some (.int .u8 x))
    (hv : ((d == c) && (decide (p + 1 = len) || (bl x || br x))) = v) :
    Calls Try.prog 7 #[.pointer (some ⟨rb, 0, none⟩), .int .u8 c] w fun e w' => e = .returned (.bool v) ∧ Below w.heap.size w w' :=
  (zzAt_any rb b o len cap p d c x w v hr hp hl hc hx hv).mono fun e w' ⟨he, m, hm⟩ => ⟨he, by rw [hm]; exact below_drewN (Below.refl _ _) m⟩

theorem cell_new {w : World} {a : Addr} {v : Value} (h : w.cell? a = some v) (o : Obj) : (w.alloc o).cell? a = some v :=
  (((Below.refl w.heap.size w).alloc (Nat.le_refl _) o).cell (World.block_lt_of_cell? _ _ h)).trans h

theorem mid_snoc (zs : List Int) (p j : Nat) (hp : p + 1 ≤ j) (h : j < zs.length) : (zs.take (j + 1)).drop (p + 1) = (zs.take j).drop (p + 1) ++ [zs[j]?.getD 0] := by
  rw [take_snoc zs j h, List.drop_append_of_le_length (by simp; omega)]

/-- how many of the first k indicators are found -/
def fnd (d : Int) (q : Bool) : Nat → Nat
  | 0 => 0
  | k + 1 => fnd d q k + if ((d == ind k) && q) = true then 1 else 0

theorem fnd_le (d : Int) (q : Bool) : fnd d q 3 ≤ 1 := by
  simp only [fnd, ind]
  cases q with
  | false => simp
  | true =>
    simp only [Bool.and_true, beq_iff_eq]
    split <;> split <;> split <;> omega

theorem fnd_le3 (d : Int) (q : Bool) (k : Nat) : fnd d q k ≤ k := by
  induction k with
  | zero => exact Nat.le_refl _
  | succ k ih => simp only [fnd]; split <;> omega

/-- the cells of the new row -/
theorem Ins.cell {B n : Nat} {w2 : World} {k : Nat} {L : List Int} {wr : World} (h : Ins B n w2 k L wr) (i : Nat) (hi : i < k) : wr.cell? ⟨B, i, none⟩ = some (.int .u8 (L.getD i 0)) := by
  have := h.1.cellAt i (by omega)
  have hl := owns_len h.1
  rw [this]
  simp at hl
  simp [List.getD, show i < L.length by omega]

set_option maxHeartbeats 2000000 in
theorem law_bl (b o len0 cap0 p : Nat) (zs : List Int) (x : Int) (w : World) (hz : zs.length = len0) (hb : b < w.heap.size) (hc : ∀ i, i < len0 → w.cell? ⟨b, o + i, none⟩ = some (.int .u8 (zs.getD i 0))) (hp : p < len0) (hl : len0 ≤ 1048576) (hbl : bl x = true) :
    Calls Try.prog 4 #[.slice (some ⟨b, o, none⟩) len0 cap0, .int .i64 p, .int .u8 x] w fun e w' => Good w e w' := by
  have q22 : ∀ (w : World) (a : Option Addr) (n c : Nat), (binOp .neq 22 (.slice a n c) (.slice none 0 0)).run Try.prog w = .ok (.bool (!a.isNone)) w := fun w a n c => run_neq_slice_nil_any w _ _ a n c 0 0 Try.underlying22
  obtain ⟨i0, hi, hz0, hz1, hz2⟩ := info_parts Try.info5
  have hA : ¬ (1048576 : Int) < (len0 : Int) := by omega
  have HZ : Hid (zs.length = len0) := hz
  have hzzz : (decide (len0 ≤ 1048576)) = true := by simpa using hl
  have HX : Hid ((bl x || br x) = true) := by rw [hbl]; rfl
  clear hz
  go_enter Try.func4, Try.ntmps4
  go_wp2_with fail
  refine (zz_any _ _ _ _ _ _ (by omega)).mono ?_
  rintro e w' ⟨rfl, rfl⟩
  rw [hzzz]
  go_wp2_with fail
  refine (isBlk_any _ _).mono ?_
  rintro e w' ⟨rfl, rfl⟩
  rw [hbl]
  clear hbl
  go_wp2_with (first | (at_make; refine wpList_make_full _ rfl (.tmp 43) (.tmp 43) 22 rfl w'.heap.size 5 i0 (.int .u8 0) 1 Try.underlying22 hi hz0 hz1 _ _ _ _ len0 rfl rfl rfl rfl (by rw [hz2]; omega) (by unfold maxLen; omega) (Nat.le_refl _) ?_; intro w1 hown hgrow) | (refine wpList_copy_splice rfl (.tmp 45) (.tmp 46) 22 22 rfl 5 Try.underlying22 (by kernel_rfl) _ _ len0 len0 len0 cap0 rfl rfl w'.heap.size 0 _ 5 (row_of_owns hown) (zs.map (Value.int .u8)) (by simp [HZ.out]) (fun _ => ⟨rfl, _, rfl, copy_src HZ.out hb hc ((Below.refl _ _).grown hgrow (Nat.le_refl _) (fun k e => by cases e))⟩) (by rw [owns_len hown]; simp [HZ.out]) (ints_oneCell _ _) w'.heap.size w' ((Below.refl _ _).grown hgrow (Nat.le_refl _) (fun k e => by cases e)) (Nat.le_refl _) ?_; intro w2 HG2 hb2) | (at_make; refine wpList_make_own _ rfl (.const (.int .i64 0)) (.tmp 51) 22 rfl w2.heap.size 5 i0 (.int .u8 0) 1 Try.underlying22 hi hz0 hz1 _ _ _ (len0 + 1) rfl rfl (by omega) (by rw [hz2]; omega) (by unfold maxLen; omega) (Nat.le_refl _) ?_; intro w3 hown3 hgrow3))
  have hdat : ∀ i, i < len0 → w2.cell? ⟨w'.heap.size, i, none⟩ = some (.int .u8 (zs.getD i 0)) := fun i hi => by
    have h := HG2.out
    rw [splice_full _ _ (by rw [owns_len hown]; simp [HZ.out])] at h
    exact cell_of_list h i (by rw [HZ.out]; exact hi)
  have hg1 : w'.heap.size < w2.heap.size := lt_of_block HG2.out
  have hI : Ins w2.heap.size (len0 + 1) w2 0 (zs.take 0) w3 := ⟨hown3, (Below.refl _ _).grown hgrow3 (Nat.le_refl _) (fun k e => by cases e), hgrow3.size⟩
  clear hown hgrow HG2 hown3 hgrow3 hc hb
  go_loopw [8, 9] (fun v i wr => ∃ k : Nat, k ≤ p + 1 ∧ i = .int .i64 k ∧ v = .slice (some ⟨w2.heap.size, 0, none⟩) k (len0 + 1) ∧ Ins w2.heap.size (len0 + 1) w2 k (zs.take k) wr) (fun _ i _ => p + 1 - (intOf i).toNat)
  case atStart => exact ⟨0, Nat.zero_le _, rfl, rfl, hI⟩
  case round =>
    obtain ⟨k, hk, rfl, rfl, hIr⟩ := hrel
    clear hI
    by_cases hlt : k < p + 1
    · have hck : wr.cell? ⟨w'.heap.size, k, none⟩ = some (.int .u8 (zs.getD k 0)) := (hIr.2.1.cell (p := ⟨w'.heap.size, k, none⟩) hg1).trans (hdat k (by omega))
      clear hdat
      go_wp2_with (at_builtin; refine wpList_append_fits _ rfl (.tmp 58) (.tmp 63) 22 rfl w2.heap.size 5 i0 1 Try.underlying22 hi hz1 w2.heap.size k (len0 + 1) _ rfl (hIr.1.alloc _) ⟨wr.heap.size, 0, none⟩ 1 1 [.int .u8 (zs[k]?.getD 0)] rfl rfl (cell_one_new _ _ _) (one_cell _) (by omega) ?_; intro w4 hown4 hgrow4)
      go_roundw
      case rel => exact ⟨k + 1, by omega, by go_num, rfl, by rw [take_snoc zs k (by rw [HZ.out]; omega)]; exact hIr.step hown4 hgrow4⟩
      case measure => simp [intOf]; omega
    · obtain rfl : k = p + 1 := by omega
      clear hlt hk
      obtain ⟨wo, rfl⟩ : ∃ wo : World, wo = wr := ⟨_, rfl⟩
      go_wp2_with (at_builtin; refine wpList_append_fits _ rfl (.tmp 65) (.tmp 67) 22 rfl w2.heap.size 5 i0 1 Try.underlying22 hi hz1 w2.heap.size (p + 1) (len0 + 1) _ rfl (hIr.1.alloc _) ⟨wo.heap.size, 0, none⟩ 1 1 [.int .u8 x] rfl rfl (cell_one_new _ _ _) (one_cell _) (by omega) ?_; intro w4 hown4 hgrow4)
      have hJ := hIr.step hown4 hgrow4
      clear hown4 hgrow4 hIr
      go_loopw [8, 10] (fun v i wr => ∃ k : Nat, p + 1 ≤ k ∧ k ≤ len0 ∧ i = .int .i64 k ∧ v = .slice (some ⟨w2.heap.size, 0, none⟩) (k + 1) (len0 + 1) ∧ Ins w2.heap.size (len0 + 1) w2 (k + 1) (zs.take (p + 1) ++ [x] ++ (zs.take k).drop (p + 1)) wr) (fun _ i _ => len0 - (intOf i).toNat)
      case atStart => exact ⟨p + 1, Nat.le_refl _, hp, by go_num, rfl, by rw [List.drop_of_length_le (by simp; omega), List.append_nil]; exact hJ⟩
      case round =>
        obtain ⟨k, hkp, hk, rfl, rfl, hIr⟩ := hrel
        clear hJ
        by_cases hlt : k < len0
        · have hck : wr.cell? ⟨w'.heap.size, k, none⟩ = some (.int .u8 (zs.getD k 0)) := (hIr.2.1.cell (p := ⟨w'.heap.size, k, none⟩) hg1).trans (hdat k (by omega))
          clear hdat
          go_wp2_with (at_builtin; refine wpList_append_fits _ rfl (.tmp 77) (.tmp 82) 22 rfl w2.heap.size 5 i0 1 Try.underlying22 hi hz1 w2.heap.size (k + 1) (len0 + 1) _ rfl (hIr.1.alloc _) ⟨wr.heap.size, 0, none⟩ 1 1 [.int .u8 (zs[k]?.getD 0)] rfl rfl (cell_one_new _ _ _) (one_cell _) (by omega) ?_; intro w4 hown4 hgrow4)
          go_roundw
          case rel => exact ⟨k + 1, by omega, by omega, by go_num, rfl, by rw [mid_snoc zs p k hkp (by rw [HZ.out]; omega), ← List.append_assoc]; exact hIr.step hown4 hgrow4⟩
          case measure => simp [intOf]; omega
        · obtain rfl : k = len0 := by omega
          clear hlt hk
          have hcp : wr.cell? ⟨w2.heap.size, p, none⟩ = some (.int .u8 (zs.getD p 0)) := by
            rw [hIr.cell p (by omega)]
            have := HZ.out
            simp only [List.getD]
            rw [List.append_assoc, List.getElem?_append_left (by simp; omega), List.getElem?_take]
            simp
          have hcx : wr.cell? ⟨w2.heap.size, p + 1, none⟩ = some (.int .u8 x) := by
            rw [hIr.cell (p + 1) (by omega)]
            have := HZ.out
            simp only [List.getD]
            rw [List.append_assoc, List.getElem?_append_right (by simp; omega)]
            simp [Nat.min_eq_left (show p + 1 ≤ zs.length by omega)]
          have hdp : wr.cell? ⟨w'.heap.size, p, none⟩ = some (.int .u8 (zs.getD p 0)) := (hIr.2.1.cell (p := ⟨w'.heap.size, p, none⟩) hg1).trans (hdat p hp)
          have hdn : p + 1 < k → wr.cell? ⟨w'.heap.size, p + 1, none⟩ = some (.int .u8 (zs.getD (p + 1) 0)) := fun h => (hIr.2.1.cell (p := ⟨w'.heap.size, p + 1, none⟩) hg1).trans (hdat (p + 1) h)
          have hbw : Below w'.heap.size w' wr := hb2.trans (hIr.2.1.mono (by omega))
          have hg2 : w2.heap.size < wr.heap.size := World.block_lt_of_cell? _ _ hcp
          clear hIr hdat hb2
          generalize zs.getD p 0 = d at *
          generalize zs.getD (p + 1) 0 = y at *
          obtain ⟨wq, rfl⟩ : ∃ wq : World, wq = wr := ⟨_, rfl⟩
          go_wp2_with fail
          obtain ⟨n, rfl⟩ : ∃ n : Nat, n = k := ⟨_, rfl⟩
          obtain ⟨q, HQ⟩ : ∃ q : Bool, Hid ((decide (p + 1 = n) || (bl y || br y)) = q) := ⟨_, rfl⟩
          go_loopw [11, 12] (fun f i wr => ∃ k : Nat, k ≤ 3 ∧ i = .int .i64 k ∧ f = .int .i64 (fnd d q k) ∧ Below wq.heap.size wq wr) (fun _ i _ => 3 - (intOf i).toNat)
          case atStart => exact ⟨0, by omega, rfl, rfl, Below.refl _ _⟩
          case round =>
            obtain ⟨k, hk, rfl, rfl, hbr⟩ := hrel
            have hcp' := (hbr.cell (p := ⟨w2.heap.size, p, none⟩) hg2).trans hcp
            have hcx' := (hbr.cell (p := ⟨w2.heap.size, p + 1, none⟩) hg2).trans hcx
            have hdp' := (hbr.cell (p := ⟨w'.heap.size, p, none⟩) (Nat.lt_trans hg1 hg2)).trans hdp
            have hdn' : p + 1 < n → wr.cell? ⟨w'.heap.size, p + 1, none⟩ = some (.int .u8 y) := fun h => (hbr.cell (p := ⟨w'.heap.size, p + 1, none⟩) (Nat.lt_trans hg1 hg2)).trans (hdn h)
            have hsz : w2.heap.size < wr.heap.size := Nat.lt_of_lt_of_le hg2 hbr.size
            clear hcp hcx hdp hdn
            have hfl := fnd_le3 d q k
            have HF : Hid (fnd d q (k + 1) = fnd d q k + if ((d == ind k) && q) = true then 1 else 0) := rfl
            by_cases hlt : k < 3
            · go_wp2_with (first | (go_at_call 12; refine (ind_any _ hlt _).mono ?_; rintro e w5 ⟨rfl, rfl⟩) | (go_at_call 8; go_in))
              have HC : Hid (∀ c : Int, ind k = c → ((d == ind k) = (d == c))) := fun c h => by rw [h]
              generalize ind k = c at *
              refine (zzAt_bel _ _ 0 _ _ p d c y _ ((d == c) && q) (rd_new _ _ _ _ _ _ _ _ _ rfl) hp (by omega) (by rw [Nat.zero_add]; exact cell_new hdp' _) (fun h => by rw [Nat.zero_add]; exact cell_new (hdn' h) _) (by rw [HQ.out])).mono ?_
              rintro e w6 ⟨rfl, hb6⟩
              have hcp6 := (hb6.cell (p := ⟨w2.heap.size, p, none⟩) (by simp; omega)).trans (cell_new hcp' _)
              have hcx6 := (hb6.cell (p := ⟨w2.heap.size, p + 1, none⟩) (by simp; omega)).trans (cell_new hcx' _)
              have hdp6 := (hb6.cell (p := ⟨w'.heap.size, p, none⟩) (by simp; omega)).trans (cell_new hdp' _)
              have hbq6 : Below wq.heap.size wq w6 := (hbr.alloc hbr.size _).trans (hb6.mono (by have := hbr.size; simp; omega))
              clear hb6 hcp' hcx' hdp' hdn'
              go_wp2_with (go_at_call 8; go_in)
              refine (zzAt_bel _ _ 0 _ _ p d c x _ (d == c) (rd_new _ _ _ _ _ _ _ _ _ rfl) (by omega) (by omega) (by rw [Nat.zero_add]; exact cell_new hcp6 _) (fun h => by rw [Nat.zero_add]; exact cell_new hcx6 _) (by rw [HX.out]; simp)).mono ?_
              rintro e w7 ⟨rfl, hb7⟩
              have hdp7 := (hb7.cell (p := ⟨w'.heap.size, p, none⟩) (by have := hbq6.size; simp; omega)).trans (cell_new hdp6 _)
              have hbq7 : Below wq.heap.size wq w7 := (hbq6.alloc hbq6.size _).trans (hb7.mono (by have := hbq6.size; simp; omega))
              clear hb7 hcp6 hcx6 hdp6 hbq6 hbr hbw HC
              cases hdc : d == c with
              | false =>
                rw [hdc] at HF
                go_wp2
                go_roundw
                case rel => exact ⟨k + 1, by omega, by go_num, by rw [HF.out]; simp, hbq7⟩
                case measure => simp [intOf]; omega
              | true =>
                cases q with
                | false =>
                  rw [hdc] at HF
                  go_wp2
                  go_roundw
                  case rel => exact ⟨k + 1, by omega, by go_num, by rw [HF.out]; simp, hbq7⟩
                  case measure => simp [intOf]; omega
                | true =>
                  rw [hdc] at HF
                  go_wp2
                  go_roundw
                  case rel => exact ⟨k + 1, by omega, by go_num, by rw [HF.out]; simp, hbq7⟩
                  case measure => simp [intOf]; omega
            · obtain rfl : k = 3 := by omega
              have hf3 := fnd_le d q
              go_wp2
              go_ret
              exact ⟨ret_bool (by simp; omega), hbw.trans (hbr.mono (by omega))⟩

set_option maxHeartbeats 2000000 in
theorem law_br (b o len0 cap0 p : Nat) (zs : List Int) (x : Int) (w : World) (hz : zs.length = len0) (hb : b < w.heap.size) (hc : ∀ i, i < len0 → w.cell? ⟨b, o + i, none⟩ = some (.int .u8 (zs.getD i 0))) (hp : p < len0) (hl : len0 ≤ 1048576) (hbl : bl x = false) (hbr0 : br x = true) :
    Calls Try.prog 4 #[.slice (some ⟨b, o, none⟩) len0 cap0, .int .i64 p, .int .u8 x] w fun e w' => Good w e w' := by
  have q22 : ∀ (w : World) (a : Option Addr) (n c : Nat), (binOp .neq 22 (.slice a n c) (.slice none 0 0)).run Try.prog w = .ok (.bool (!a.isNone)) w := fun w a n c => run_neq_slice_nil_any w _ _ a n c 0 0 Try.underlying22
  obtain ⟨i0, hi, hz0, hz1, hz2⟩ := info_parts Try.info5
  have hA : ¬ (1048576 : Int) < (len0 : Int) := by omega
  have HZ : Hid (zs.length = len0) := hz
  have hzzz : (decide (len0 ≤ 1048576)) = true := by simpa using hl
  have HX : Hid ((bl x || br x) = true) := by rw [hbl, hbr0]; rfl
  clear hz
  go_enter Try.func4, Try.ntmps4
  go_wp2_with fail
  refine (zz_any _ _ _ _ _ _ (by omega)).mono ?_
  rintro e w' ⟨rfl, rfl⟩
  rw [hzzz]
  go_wp2_with fail
  refine (isBlk_any _ _).mono ?_
  rintro e w' ⟨rfl, rfl⟩
  rw [hbl]
  clear hbl
  go_wp2_with fail
  refine (isBrk_any _ _).mono ?_
  rintro e w' ⟨rfl, rfl⟩
  rw [hbr0]
  clear hbr0
  go_wp2_with (first | (at_make; refine wpList_make_full _ rfl (.tmp 43) (.tmp 43) 22 rfl w'.heap.size 5 i0 (.int .u8 0) 1 Try.underlying22 hi hz0 hz1 _ _ _ _ len0 rfl rfl rfl rfl (by rw [hz2]; omega) (by unfold maxLen; omega) (Nat.le_refl _) ?_; intro w1 hown hgrow) | (refine wpList_copy_splice rfl (.tmp 45) (.tmp 46) 22 22 rfl 5 Try.underlying22 (by kernel_rfl) _ _ len0 len0 len0 cap0 rfl rfl w'.heap.size 0 _ 5 (row_of_owns hown) (zs.map (Value.int .u8)) (by simp [HZ.out]) (fun _ => ⟨rfl, _, rfl, copy_src HZ.out hb hc ((Below.refl _ _).grown hgrow (Nat.le_refl _) (fun k e => by cases e))⟩) (by rw [owns_len hown]; simp [HZ.out]) (ints_oneCell _ _) w'.heap.size w' ((Below.refl _ _).grown hgrow (Nat.le_refl _) (fun k e => by cases e)) (Nat.le_refl _) ?_; intro w2 HG2 hb2) | (at_make; refine wpList_make_own _ rfl (.const (.int .i64 0)) (.tmp 51) 22 rfl w2.heap.size 5 i0 (.int .u8 0) 1 Try.underlying22 hi hz0 hz1 _ _ _ (len0 + 1) rfl rfl (by omega) (by rw [hz2]; omega) (by unfold maxLen; omega) (Nat.le_refl _) ?_; intro w3 hown3 hgrow3))
  have hdat : ∀ i, i < len0 → w2.cell? ⟨w'.heap.size, i, none⟩ = some (.int .u8 (zs.getD i 0)) := fun i hi => by
    have h := HG2.out
    rw [splice_full _ _ (by rw [owns_len hown]; simp [HZ.out])] at h
    exact cell_of_list h i (by rw [HZ.out]; exact hi)
  have hg1 : w'.heap.size < w2.heap.size := lt_of_block HG2.out
  have hI : Ins w2.heap.size (len0 + 1) w2 0 (zs.take 0) w3 := ⟨hown3, (Below.refl _ _).grown hgrow3 (Nat.le_refl _) (fun k e => by cases e), hgrow3.size⟩
  clear hown hgrow HG2 hown3 hgrow3 hc hb
  go_loopw [8, 9] (fun v i wr => ∃ k : Nat, k ≤ p + 1 ∧ i = .int .i64 k ∧ v = .slice (some ⟨w2.heap.size, 0, none⟩) k (len0 + 1) ∧ Ins w2.heap.size (len0 + 1) w2 k (zs.take k) wr) (fun _ i _ => p + 1 - (intOf i).toNat)
  case atStart => exact ⟨0, Nat.zero_le _, rfl, rfl, hI⟩
  case round =>
    obtain ⟨k, hk, rfl, rfl, hIr⟩ := hrel
    clear hI
    by_cases hlt : k < p + 1
    · have hck : wr.cell? ⟨w'.heap.size, k, none⟩ = some (.int .u8 (zs.getD k 0)) := (hIr.2.1.cell (p := ⟨w'.heap.size, k, none⟩) hg1).trans (hdat k (by omega))
      clear hdat
      go_wp2_with (at_builtin; refine wpList_append_fits _ rfl (.tmp 58) (.tmp 63) 22 rfl w2.heap.size 5 i0 1 Try.underlying22 hi hz1 w2.heap.size k (len0 + 1) _ rfl (hIr.1.alloc _) ⟨wr.heap.size, 0, none⟩ 1 1 [.int .u8 (zs[k]?.getD 0)] rfl rfl (cell_one_new _ _ _) (one_cell _) (by omega) ?_; intro w4 hown4 hgrow4)
      go_roundw
      case rel => exact ⟨k + 1, by omega, by go_num, rfl, by rw [take_snoc zs k (by rw [HZ.out]; omega)]; exact hIr.step hown4 hgrow4⟩
      case measure => simp [intOf]; omega
    · obtain rfl : k = p + 1 := by omega
      clear hlt hk
      obtain ⟨wo, rfl⟩ : ∃ wo : World, wo = wr := ⟨_, rfl⟩
      go_wp2_with (at_builtin; refine wpList_append_fits _ rfl (.tmp 65) (.tmp 67) 22 rfl w2.heap.size 5 i0 1 Try.underlying22 hi hz1 w2.heap.size (p + 1) (len0 + 1) _ rfl (hIr.1.alloc _) ⟨wo.heap.size, 0, none⟩ 1 1 [.int .u8 x] rfl rfl (cell_one_new _ _ _) (one_cell _) (by omega) ?_; intro w4 hown4 hgrow4)
      have hJ := hIr.step hown4 hgrow4
      clear hown4 hgrow4 hIr
      go_loopw [8, 10] (fun v i wr => ∃ k : Nat, p + 1 ≤ k ∧ k ≤ len0 ∧ i = .int .i64 k ∧ v = .slice (some ⟨w2.heap.size, 0, none⟩) (k + 1) (len0 + 1) ∧ Ins w2.heap.size (len0 + 1) w2 (k + 1) (zs.take (p + 1) ++ [x] ++ (zs.take k).drop (p + 1)) wr) (fun _ i _ => len0 - (intOf i).toNat)
      case atStart => exact ⟨p + 1, Nat.le_refl _, hp, by go_num, rfl, by rw [List.drop_of_length_le (by simp; omega), List.append_nil]; exact hJ⟩
      case round =>
        obtain ⟨k, hkp, hk, rfl, rfl, hIr⟩ := hrel
        clear hJ
        by_cases hlt : k < len0
        · have hck : wr.cell? ⟨w'.heap.size, k, none⟩ = some (.int .u8 (zs.getD k 0)) := (hIr.2.1.cell (p := ⟨w'.heap.size, k, none⟩) hg1).trans (hdat k (by omega))
          clear hdat
          go_wp2_with (at_builtin; refine wpList_append_fits _ rfl (.tmp 77) (.tmp 82) 22 rfl w2.heap.size 5 i0 1 Try.underlying22 hi hz1 w2.heap.size (k + 1) (len0 + 1) _ rfl (hIr.1.alloc _) ⟨wr.heap.size, 0, none⟩ 1 1 [.int .u8 (zs[k]?.getD 0)] rfl rfl (cell_one_new _ _ _) (one_cell _) (by omega) ?_; intro w4 hown4 hgrow4)
          go_roundw
          case rel => exact ⟨k + 1, by omega, by omega, by go_num, rfl, by rw [mid_snoc zs p k hkp (by rw [HZ.out]; omega), ← List.append_assoc]; exact hIr.step hown4 hgrow4⟩
          case measure => simp [intOf]; omega
        · obtain rfl : k = len0 := by omega
          clear hlt hk
          have hcp : wr.cell? ⟨w2.heap.size, p, none⟩ = some (.int .u8 (zs.getD p 0)) := by
            rw [hIr.cell p (by omega)]
            have := HZ.out
            simp only [List.getD]
            rw [List.append_assoc, List.getElem?_append_left (by simp; omega), List.getElem?_take]
            simp
          have hcx : wr.cell? ⟨w2.heap.size, p + 1, none⟩ = some (.int .u8 x) := by
            rw [hIr.cell (p + 1) (by omega)]
            have := HZ.out
            simp only [List.getD]
            rw [List.append_assoc, List.getElem?_append_right (by simp; omega)]
            simp [Nat.min_eq_left (show p + 1 ≤ zs.length by omega)]
          have hdp : wr.cell? ⟨w'.heap.size, p, none⟩ = some (.int .u8 (zs.getD p 0)) := (hIr.2.1.cell (p := ⟨w'.heap.size, p, none⟩) hg1).trans (hdat p hp)
          have hdn : p + 1 < k → wr.cell? ⟨w'.heap.size, p + 1, none⟩ = some (.int .u8 (zs.getD (p + 1) 0)) := fun h => (hIr.2.1.cell (p := ⟨w'.heap.size, p + 1, none⟩) hg1).trans (hdat (p + 1) h)
          have hbw : Below w'.heap.size w' wr := hb2.trans (hIr.2.1.mono (by omega))
          have hg2 : w2.heap.size < wr.heap.size := World.block_lt_of_cell? _ _ hcp
          clear hIr hdat hb2
          generalize zs.getD p 0 = d at *
          generalize zs.getD (p + 1) 0 = y at *
          obtain ⟨wq, rfl⟩ : ∃ wq : World, wq = wr := ⟨_, rfl⟩
          go_wp2_with fail
          obtain ⟨n, rfl⟩ : ∃ n : Nat, n = k := ⟨_, rfl⟩
          obtain ⟨q, HQ⟩ : ∃ q : Bool, Hid ((decide (p + 1 = n) || (bl y || br y)) = q) := ⟨_, rfl⟩
          go_loopw [11, 12] (fun f i wr => ∃ k : Nat, k ≤ 3 ∧ i = .int .i64 k ∧ f = .int .i64 (fnd d q k) ∧ Below wq.heap.size wq wr) (fun _ i _ => 3 - (intOf i).toNat)
          case atStart => exact ⟨0, by omega, rfl, rfl, Below.refl _ _⟩
          case round =>
            obtain ⟨k, hk, rfl, rfl, hbr⟩ := hrel
            have hcp' := (hbr.cell (p := ⟨w2.heap.size, p, none⟩) hg2).trans hcp
            have hcx' := (hbr.cell (p := ⟨w2.heap.size, p + 1, none⟩) hg2).trans hcx
            have hdp' := (hbr.cell (p := ⟨w'.heap.size, p, none⟩) (Nat.lt_trans hg1 hg2)).trans hdp
            have hdn' : p + 1 < n → wr.cell? ⟨w'.heap.size, p + 1, none⟩ = some (.int .u8 y) := fun h => (hbr.cell (p := ⟨w'.heap.size, p + 1, none⟩) (Nat.lt_trans hg1 hg2)).trans (hdn h)
            have hsz : w2.heap.size < wr.heap.size := Nat.lt_of_lt_of_le hg2 hbr.size
            clear hcp hcx hdp hdn
            have hfl := fnd_le3 d q k
            have HF : Hid (fnd d q (k + 1) = fnd d q k + if ((d == ind k) && q) = true then 1 else 0) := rfl
            by_cases hlt : k < 3
            · go_wp2_with (first | (go_at_call 12; refine (ind_any _ hlt _).mono ?_; rintro e w5 ⟨rfl, rfl⟩) | (go_at_call 8; go_in))
              have HC : Hid (∀ c : Int, ind k = c → ((d == ind k) = (d == c))) := fun c h => by rw [h]
              generalize ind k = c at *
              refine (zzAt_bel _ _ 0 _ _ p d c y _ ((d == c) && q) (rd_new _ _ _ _ _ _ _ _ _ rfl) hp (by omega) (by rw [Nat.zero_add]; exact cell_new hdp' _) (fun h => by rw [Nat.zero_add]; exact cell_new (hdn' h) _) (by rw [HQ.out])).mono ?_
              rintro e w6 ⟨rfl, hb6⟩
              have hcp6 := (hb6.cell (p := ⟨w2.heap.size, p, none⟩) (by simp; omega)).trans (cell_new hcp' _)
              have hcx6 := (hb6.cell (p := ⟨w2.heap.size, p + 1, none⟩) (by simp; omega)).trans (cell_new hcx' _)
              have hdp6 := (hb6.cell (p := ⟨w'.heap.size, p, none⟩) (by simp; omega)).trans (cell_new hdp' _)
              have hbq6 : Below wq.heap.size wq w6 := (hbr.alloc hbr.size _).trans (hb6.mono (by have := hbr.size; simp; omega))
              clear hb6 hcp' hcx' hdp' hdn'
              go_wp2_with (go_at_call 8; go_in)
              refine (zzAt_bel _ _ 0 _ _ p d c x _ (d == c) (rd_new _ _ _ _ _ _ _ _ _ rfl) (by omega) (by omega) (by rw [Nat.zero_add]; exact cell_new hcp6 _) (fun h => by rw [Nat.zero_add]; exact cell_new hcx6 _) (by rw [HX.out]; simp)).mono ?_
              rintro e w7 ⟨rfl, hb7⟩
              have hdp7 := (hb7.cell (p := ⟨w'.heap.size, p, none⟩) (by have := hbq6.size; simp; omega)).trans (cell_new hdp6 _)
              have hbq7 : Below wq.heap.size wq w7 := (hbq6.alloc hbq6.size _).trans (hb7.mono (by have := hbq6.size; simp; omega))
              clear hb7 hcp6 hcx6 hdp6 hbq6 hbr hbw HC
              cases hdc : d == c with
              | false =>
                rw [hdc] at HF
                go_wp2
                go_roundw
                case rel => exact ⟨k + 1, by omega, by go_num, by rw [HF.out]; simp, hbq7⟩
                case measure => simp [intOf]; omega
              | true =>
                cases q with
                | false =>
                  rw [hdc] at HF
                  go_wp2
                  go_roundw
                  case rel => exact ⟨k + 1, by omega, by go_num, by rw [HF.out]; simp, hbq7⟩
                  case measure => simp [intOf]; omega
                | true =>
                  rw [hdc] at HF
                  go_wp2
                  go_roundw
                  case rel => exact ⟨k + 1, by omega, by go_num, by rw [HF.out]; simp, hbq7⟩
                  case measure => simp [intOf]; omega
            · obtain rfl : k = 3 := by omega
              have hf3 := fnd_le d q
              go_wp2
              go_ret
              exact ⟨ret_bool (by simp; omega), hbw.trans (hbr.mono (by omega))⟩

theorem Qgood (w : World) : Good w (.returned (.bool true)) w := ⟨rfl, Below.refl _ _⟩

set_option maxHeartbeats 1000000 in
theorem law_any (a : Option Addr) (len0 cap0 : Nat) (zs : List Int) (pos x : Int) (w : World) (hs : len0 = 0 ∨ ∃ b o, a = some ⟨b, o, none⟩ ∧ b < w.heap.size ∧ ∀ i, i < len0 → w.cell? ⟨b, o + i, none⟩ = some (.int .u8 (zs.getD i 0))) (hz : zs.length = len0) (hm : len0 ≤ 9223372036854775807) :
    Calls Try.prog 4 #[.slice a len0 cap0, .int .i64 pos, .int .u8 x] w fun e w' => Good w e w' := by
  by_cases hl : len0 ≤ 1048576
  · have hA : ¬ (1048576 : Int) < (len0 : Int) := by omega
    have hzzz : (decide (len0 ≤ 1048576)) = true := by simpa using hl
    by_cases hp0 : pos < 0
    · clear hs
      go_enter Try.func4, Try.ntmps4
      go_wp2_with fail
      refine (zz_any _ _ _ _ _ _ (by omega)).mono ?_
      rintro e w' ⟨rfl, rfl⟩
      rw [hzzz]
      go_wp2
      go_ret
      exact Qgood _
    · by_cases hp1 : (len0 : Int) ≤ pos
      · clear hs
        go_enter Try.func4, Try.ntmps4
        go_wp2_with fail
        refine (zz_any _ _ _ _ _ _ (by omega)).mono ?_
        rintro e w' ⟨rfl, rfl⟩
        rw [hzzz]
        go_wp2
        go_ret
        exact Qgood _
      · obtain ⟨p, rfl⟩ := Int.eq_ofNat_of_zero_le (show 0 ≤ pos by omega)
        obtain ⟨b, o, rfl, hb, hc⟩ := hs.resolve_left (by omega)
        cases hbl : bl x with
        | true => exact law_bl b o len0 cap0 p zs x w hz hb hc (by omega) hl hbl
        | false =>
          cases hbr : br x with
          | true => exact law_br b o len0 cap0 p zs x w hz hb hc (by omega) hl hbl hbr
          | false =>
            have HL : Hid (bl x = false) := hbl
            have HR : Hid (br x = false) := hbr
            clear hs hc hbl hbr
            go_enter Try.func4, Try.ntmps4
            go_wp2_with fail
            refine (zz_any _ _ _ _ _ _ (by omega)).mono ?_
            rintro e w' ⟨rfl, rfl⟩
            rw [hzzz]
            go_wp2_with fail
            refine (isBlk_any _ _).mono ?_
            rintro e w' ⟨rfl, rfl⟩
            rw [HL.out]
            go_wp2_with fail
            refine (isBrk_any _ _).mono ?_
            rintro e w' ⟨rfl, rfl⟩
            rw [HR.out]
            go_wp2
            go_ret
            exact Qgood _
  · have hzzz : (decide (len0 ≤ 1048576)) = false := by simpa using hl
    clear hs
    go_enter Try.func4, Try.ntmps4
    go_wp2_with fail
    refine (zz_any _ _ _ _ _ _ (by omega)).mono ?_
    rintro e w' ⟨rfl, rfl⟩
    rw [hzzz]
    go_wp2
    go_ret
    exact Qgood _

end Go.Proofs.Qxb6615086a
