/-
  Seat b6634886a: zzCloneCells (7).
-/
import Derived.Test.Qxb6634886aCloneB
namespace Go.Proofs.Qxb6634886a
open Go.RowKit

theorem clone_step {w wr w2 w3 : World} {n k : Nat} {K L : Nat → Nat} {xs : List Value} (hk : k < n) (HB : Below w.heap.size w wr) (HO : wr.ownsRow w.heap.size 32 3 (.slice (some ⟨w.heap.size, 0, none⟩) n n) n xs) (HP : Part K L k xs)
    (hb2 : Below wr.drew.heap.size wr.drew w2) (hb3 : Below w2.heap.size w2 w3) (a2 : Option Addr) (c2 : Nat) (a3 : Option Addr) (c3 : Nat) (ov : Bool) :
    ∃ xs', (((w3.setCell ⟨w.heap.size, k * 3, none⟩ (.slice a2 (K k) c2)).setCell ⟨w.heap.size, k * 3 + 1, none⟩ (.slice a3 (L k) c3)).setCell ⟨w.heap.size, k * 3 + 2, none⟩ (.bool ov)).ownsRow w.heap.size 32 3 (.slice (some ⟨w.heap.size, 0, none⟩) n n) n xs' ∧
      Part K L (k + 1) xs' ∧ Below w.heap.size w (((w3.setCell ⟨w.heap.size, k * 3, none⟩ (.slice a2 (K k) c2)).setCell ⟨w.heap.size, k * 3 + 1, none⟩ (.slice a3 (L k) c3)).setCell ⟨w.heap.size, k * 3 + 2, none⟩ (.bool ov)) := by
  have h1s := HB.size
  have h2s : wr.heap.size ≤ w2.heap.size := hb2.size
  have hl := HO.1
  refine ⟨_, ((((owns_later (owns_later HO.drew hb2) hb3).stored (k * 3) _).1.stored (k * 3 + 1) _).1.stored (k * 3 + 2) _).1, HP.lay (by omega) a2 c2 a3 c3 ov, ?_⟩
  exact (((((HB.drew).trans (hb2.mono h1s)).trans (hb3.mono (by omega))).setCell (Nat.le_refl _) _).setCell (Nat.le_refl _) _).setCell (Nat.le_refl _) _

set_option maxHeartbeats 1000000 in
theorem cloneC_some (b o n cap : Nat) (K L : Nat → Nat) (w : World) (hn : n ≤ 1048576) (hK : ∀ i, i < n → K i ≤ 1048576) (hL : ∀ i, i < n → L i ≤ 1048576) (h : CellsIn w b o n K L) :
    Calls Try.prog 7 #[.slice (some ⟨b, o, none⟩) n cap] w fun e w' => e = .returned (.slice (some ⟨w.heap.size, 0, none⟩) n n) ∧ CellsAt w' w.heap.size 0 n K L ∧ Below w.heap.size w w' := by
  have q := fun (w : World) (a : Option Addr) (n c : Nat) => Lib.run_eql_slice_nil (P := Try.prog) w 22 32 a n c 0 0 Try.underlying22
  obtain ⟨i0, hi, hz0, hz1, hz2⟩ := info_parts Try.info32
  go_enter Try.func7, Try.ntmps7
  go_wp2_with (first | (at_make; refine wpList_make_full w rfl _ _ 22 rfl w.heap.size 32 i0 _ 3 Try.underlying22 hi hz0 hz1 .i64 .i64 _ _ n rfl rfl rfl rfl (by rw [hz2]; omega) (by unfold maxLen; omega) (Nat.le_refl _) ?_; intro w1 hown hgrow))
  have hb1 : Below w.heap.size w w1 := (Below.refl _ _).grown hgrow (Nat.le_refl _) (by simp)
  clear hgrow q hi hz0 hz1 hz2
  go_loopw [4] (fun i wr => ∃ (k : Nat) (xs : List Value), k ≤ n ∧ i = .int .i64 k ∧ wr.ownsRow w.heap.size 32 3 (.slice (some ⟨w.heap.size, 0, none⟩) n n) n xs ∧ Part K L k xs ∧ Below w.heap.size w wr)
    (fun i _ => n - (intOf i).toNat)
  case atStart => exact ⟨0, _, Nat.zero_le _, rfl, hown, Part.zero _ _ _, hb1⟩
  case round =>
    obtain ⟨k, xs, hk, rfl, hownr, hpa, hbr⟩ := hrel
    clear hown hb1
    have HB : Hid (Below w.heap.size w wr) := hbr
    have HO : Hid (wr.ownsRow w.heap.size 32 3 (.slice (some ⟨w.heap.size, 0, none⟩) n n) n xs) := hownr
    have HP : Hid (Part K L k xs) := hpa
    clear hownr hpa
    by_cases hlt : k < n
    · obtain ⟨ka, kc, pa, pc, ov, h0, h1, h2, h3, h4⟩ := h.later hbr k hlt
      have hi1 : (k : Int) < (n : Int) := by omega
      have hi0' : (0 : Int) ≤ (k : Int) := by omega
      have hne : b ≠ w.heap.size := by
        obtain ⟨_, _, _, _, _, g0, _⟩ := h k hlt
        have := World.block_lt_of_cell? _ _ g0
        simp at this ⊢
        omega
      have HKk : Hid (K k ≤ 1048576) := hK k hlt
      have HLk : Hid (L k ≤ 1048576) := hL k hlt
      have H3 : Hid (BytesAt wr ka (K k)) := h3
      have H4 : Hid (BytesAt wr pa (L k)) := h4
      clear h hbr hK hL h3 h4
      go_wp2
      go_region_held3 (fun w' => w'.cell? ⟨b, o + k * 3, none⟩ = some (.slice ka (K k) kc) ∧ w'.cell? ⟨b, o + k * 3 + 1, none⟩ = some (.slice pa (L k) pc) ∧ w'.cell? ⟨b, o + k * 3 + 2, none⟩ = some (.bool ov))
        (first
          | go_keep
          | (go_split_ands; exact ⟨cell_later hb2 (by assumption), cell_later hb2 (by assumption), cell_later hb2 (by assumption)⟩)
          | (go_split_ands; exact ⟨cell_later hb3 (by assumption), cell_later hb3 (by assumption), cell_later hb3 (by assumption)⟩)
          | (go_split_ands; exact ⟨cell_far3 (by assumption) hne, cell_far3 (by assumption) hne, cell_far3 (by assumption) hne⟩))
        (first
          | (go_at_call_of 12 (Value.slice ka (K k) kc); refine (cloneB ka (K k) kc _ (H3.out.later ?_) HKk.out).mono ?_; exact (Below.refl _ _).drew; rintro e w2 ⟨⟨a2, c2, rfl⟩, hb2⟩)
          | (go_at_call_of 12 (Value.slice pa (L k) pc); refine (cloneB pa (L k) pc _ (H4.out.later ?_) HLk.out).mono ?_; exact ((Below.refl _ _).drew).trans hb2; rintro e w3 ⟨⟨a3, c3, rfl⟩, hb3⟩; obtain ⟨y0, y1, y2, s0, s1, s2, f0, f1, f2⟩ := owns_three (owns_later (owns_later HO.out.drew hb2) hb3) hlt))
      have R : Hid _ := clone_step hlt HB.out HO.out HP.out hb2 hb3 a2 c2 a3 c3 ov
      clear hb2 hb3 s0 s1 s2 f0 f1 f2 h0 h1 h2
      go_wp2
      go_roundw
      case rel =>
        obtain ⟨xs', r1, r2, r3⟩ := R.out
        exact ⟨k + 1, xs', by omega, by go_num, r1, r2, r3⟩
      case measure => simp [intOf]; omega
    · clear h
      go_wp2
      go_ret
      obtain rfl : k = n := by omega
      exact ⟨rfl, HP.out.cells HO.out, HB.out⟩

set_option maxHeartbeats 400000 in
theorem cloneC_nil (n cap : Nat) (w : World) : Calls Try.prog 7 #[.slice none n cap] w fun e w' => e = .returned (.slice none 0 0) ∧ w' = w := by
  have q := fun (w : World) (a : Option Addr) (n c : Nat) => Lib.run_eql_slice_nil (P := Try.prog) w 22 32 a n c 0 0 Try.underlying22
  go_enter Try.func7, Try.ntmps7
  go_wp2
  go_ret
  exact ⟨rfl, rfl⟩

set_option maxHeartbeats 400000 in
theorem cloneC_empty (ad : Addr) (cap : Nat) (w : World) :
    Calls Try.prog 7 #[.slice (some ad) 0 cap] w fun e w' => e = .returned (.slice (some ⟨w.heap.size, 0, none⟩) 0 0) ∧ Below w.heap.size w w' := by
  have q := fun (w : World) (a : Option Addr) (n c : Nat) => Lib.run_eql_slice_nil (P := Try.prog) w 22 32 a n c 0 0 Try.underlying22
  obtain ⟨i0, hi, hz0, hz1, hz2⟩ := info_parts Try.info32
  go_enter Try.func7, Try.ntmps7
  go_wp2_with (first | (at_make; refine wpList_make_full w rfl _ _ 22 rfl w.heap.size 32 i0 _ 3 Try.underlying22 hi hz0 hz1 .i64 .i64 _ _ 0 rfl rfl rfl rfl (by rw [hz2]; omega) (by unfold maxLen; omega) (Nat.le_refl _) ?_; intro w1 hown hgrow))
  have hb1 : Below w.heap.size w w1 := (Below.refl _ _).grown hgrow (Nat.le_refl _) (by simp)
  clear hgrow hown q
  refine wp_loop_rounds 1 ?_
  rw [rounds_succ]
  go_wp2
  go_ret
  exact ⟨rfl, hb1⟩

/-- zzCloneCells of no cells: an empty slice, nil or not. -/
theorem cloneC_zero (a : Option Addr) (cap : Nat) (w : World) :
    Calls Try.prog 7 #[.slice a 0 cap] w fun e w' => (∃ a' c', e = .returned (.slice a' 0 c')) ∧ Below w.heap.size w w' := by
  cases a with
  | none =>
    refine (cloneC_nil 0 cap w).mono fun e w' ⟨he, hw⟩ => ?_
    subst hw
    exact ⟨⟨_, _, he⟩, Below.refl _ _⟩
  | some ad => exact (cloneC_empty ad cap w).mono fun e w' ⟨he, hw⟩ => ⟨⟨_, _, he⟩, hw⟩

end Go.Proofs.Qxb6634886a
