/-
  Seat b6634886a: zzCloneBytes (function 12).
-/
import Derived.Test.Qxb6634886aBase
namespace Go.Proofs.Qxb6634886a
open Go.RowKit

set_option maxHeartbeats 400000 in
theorem cloneB_nil (n cap : Nat) (w : World) : Calls Try.prog 12 #[.slice none n cap] w fun e w' => e = .returned (.slice none 0 0) ∧ w' = w := by
  have q := fun (w : World) (a : Option Addr) (n c : Nat) => Lib.run_eql_slice_nil (P := Try.prog) w 30 5 a n c 0 0 Try.underlying30
  go_enter Try.func12, Try.ntmps12
  go_wp2
  go_ret
  exact ⟨rfl, rfl⟩

set_option maxHeartbeats 400000 in
theorem cloneB_some (b o n cap : Nat) (w : World) (hn : n ≤ 1048576) (hc : ∀ j, j < n → ∃ x, w.cell? ⟨b, o + j, none⟩ = some (.int .u8 x)) :
    Calls Try.prog 12 #[.slice (some ⟨b, o, none⟩) n cap] w fun e w' => e = .returned (.slice (some ⟨w.heap.size, 0, none⟩) n n) ∧ Below w.heap.size w w' := by
  have q := fun (w : World) (a : Option Addr) (n c : Nat) => Lib.run_eql_slice_nil (P := Try.prog) w 30 5 a n c 0 0 Try.underlying30
  obtain ⟨i0, hi, hz0, hz1, hz2⟩ := info_parts Try.info5
  go_enter Try.func12, Try.ntmps12
  go_wp2_with (first | (at_make; refine wpList_make_full w rfl _ _ 30 rfl w.heap.size 5 i0 (.int .u8 0) 1 Try.underlying30 hi hz0 hz1 .i64 .i64 _ _ n rfl rfl rfl rfl (by rw [hz2]; omega) (by unfold maxLen; omega) (Nat.le_refl _) ?_; intro w1 hown hgrow))
  have hb1 : Below w.heap.size w w1 := (Below.refl _ _).grown hgrow (Nat.le_refl _) (by simp)
  clear hgrow q
  go_loopw [4] (fun i wr => ∃ (k : Nat) (xs : List Value), k ≤ n ∧ i = .int .i64 k ∧ wr.ownsRow w.heap.size 5 1 (.slice (some ⟨w.heap.size, 0, none⟩) n n) n xs ∧ Below w.heap.size w wr)
    (fun i _ => n - (intOf i).toNat)
  case atStart => exact ⟨0, _, Nat.zero_le _, rfl, hown, hb1⟩
  case round =>
    obtain ⟨k, xs, hk, rfl, hownr, hbr⟩ := hrel
    clear hown hb1
    by_cases hlt : k < n
    · obtain ⟨x, hx⟩ := hc k hlt
      have hx' : wr.cell? ⟨b, o + k, none⟩ = some (.int .u8 x) := cell_later hbr hx
      obtain ⟨v0, hv0⟩ : ∃ v0, wr.cell? ⟨w.heap.size, k, none⟩ = some v0 := ⟨xs[k]'(by rw [hownr.1]; omega), by rw [hownr.cellAt k (by omega)]; exact List.getElem?_eq_getElem _⟩
      have hf := hownr.frozenAt k
      have HO : Hid (wr.ownsRow w.heap.size 5 1 (.slice (some ⟨w.heap.size, 0, none⟩) n n) n xs) := hownr
      have HB : Hid (Below w.heap.size w wr) := hbr
      clear hownr hbr hc hx
      go_wp2
      go_roundw
      case rel => exact ⟨k + 1, _, by omega, by go_num, (HO.out.stored k _).1, HB.out.setCell (Nat.le_refl _) _⟩
      case measure => simp [intOf]; omega
    · go_wp2
      go_ret
      exact ⟨rfl, hbr⟩

set_option maxHeartbeats 400000 in
theorem cloneB_zero (ad : Addr) (cap : Nat) (w : World) :
    Calls Try.prog 12 #[.slice (some ad) 0 cap] w fun e w' => e = .returned (.slice (some ⟨w.heap.size, 0, none⟩) 0 0) ∧ Below w.heap.size w w' := by
  have q := fun (w : World) (a : Option Addr) (n c : Nat) => Lib.run_eql_slice_nil (P := Try.prog) w 30 5 a n c 0 0 Try.underlying30
  obtain ⟨i0, hi, hz0, hz1, hz2⟩ := info_parts Try.info5
  go_enter Try.func12, Try.ntmps12
  go_wp2_with (first | (at_make; refine wpList_make_full w rfl _ _ 30 rfl w.heap.size 5 i0 (.int .u8 0) 1 Try.underlying30 hi hz0 hz1 .i64 .i64 _ _ 0 rfl rfl rfl rfl (by rw [hz2]; omega) (by unfold maxLen; omega) (Nat.le_refl _) ?_; intro w1 hown hgrow))
  have hb1 : Below w.heap.size w w1 := (Below.refl _ _).grown hgrow (Nat.le_refl _) (by simp)
  clear hgrow q
  refine wp_loop_rounds 1 ?_
  rw [rounds_succ]
  go_wp2
  go_ret
  exact ⟨rfl, hb1⟩

/-- zzCloneBytes: a slice of the same length; nothing that was there has turned. -/
theorem cloneB (a : Option Addr) (n cap : Nat) (w : World) (h : BytesAt w a n) (hn : n ≤ 1048576) :
    Calls Try.prog 12 #[.slice a n cap] w fun e w' => (∃ a' c', e = .returned (.slice a' n c')) ∧ Below w.heap.size w w' := by
  cases a with
  | none =>
    obtain rfl : n = 0 := h.1 rfl
    refine (cloneB_nil 0 cap w).mono fun e w' ⟨he, hw⟩ => ?_
    subst hw
    exact ⟨⟨_, _, he⟩, Below.refl _ _⟩
  | some ad =>
    rcases Nat.eq_zero_or_pos n with rfl | hpos
    · exact (cloneB_zero ad cap w).mono fun e w' ⟨he, hw⟩ => ⟨⟨_, _, he⟩, hw⟩
    · obtain ⟨b, o, ha, hc⟩ := h.2 hpos
      obtain rfl := Option.some.inj ha
      exact (cloneB_some b o n cap w hn hc).mono fun e w' ⟨he, hw⟩ => ⟨⟨_, _, he⟩, hw⟩

end Go.Proofs.Qxb6634886a
