/-
  Seat b6634886a: zzBuild (8).
-/
import Derived.Test.Qxb6634886aUsed
namespace Go.Proofs.Qxb6634886a
open Go.RowKit

theorem build_step {w wr w2 w3 : World} {o : Obj} (h1 : Below w.heap.size w wr) (h2 : Below wr.drew.heap.size wr.drew w2) (h3 : (w2.alloc o).grownBy w3 (some w.heap.size)) : Below w.heap.size w w3 := by
  have h2s : wr.heap.size ≤ w2.heap.size := h2.size
  have h1s := h1.size
  exact (((h1.drew).trans (h2.mono h1s)).alloc (by omega) o).grown h3 (by simp; omega) (fun k hk => by simp at hk; omega)

set_option maxHeartbeats 1000000 in
theorem build8 (flip : Bool) (b o n cap : Nat) (K L : Nat → Nat) (w : World) (hn : n ≤ 1048576) (h : CellsAt w b o n K L) :
    Calls Try.prog 8 #[.slice (some ⟨b, o, none⟩) n cap, .bool flip] w fun e w' => e = .returned (.slice (some ⟨w.heap.size, 0, none⟩) n n) ∧ CellsAt w' w.heap.size 0 n K L ∧ Below w.heap.size w w' := by
  obtain ⟨i0, hi, hz0, hz1, hz2⟩ := info_parts Try.info36
  go_enter Try.func8, Try.ntmps8
  go_wp2_with (first | (at_make; refine wpList_make_own w rfl _ _ 26 rfl w.heap.size 36 i0 _ 3 Try.underlying26 hi hz0 hz1 .i64 .i64 _ n rfl rfl rfl (by rw [hz2]; omega) (by unfold maxLen; omega) (Nat.le_refl _) ?_; intro w1 hown hgrow))
  have hb1 : Below w.heap.size w w1 := (Below.refl _ _).grown hgrow (Nat.le_refl _) (by simp)
  clear hgrow
  go_loopw [5, 6] (fun v i wr => ∃ (k : Nat) (xs : List Value), k ≤ n ∧ i = .int .i64 k ∧ v = .slice (some ⟨w.heap.size, 0, none⟩) k n ∧ wr.ownsRow w.heap.size 36 3 (.slice (some ⟨w.heap.size, 0, none⟩) k n) k xs ∧ Built K L k xs ∧ Below w.heap.size w wr)
    (fun _ i _ => n - (intOf i).toNat)
  case atStart => exact ⟨0, [], Nat.zero_le _, rfl, rfl, hown, Built.nil _ _, hb1⟩
  case round =>
    obtain ⟨k, xs, hk, rfl, rfl, hownr, hbu, hbr⟩ := hrel
    clear hown hb1
    have HB : Hid (Below w.heap.size w wr) := hbr
    have HO : Hid (wr.ownsRow w.heap.size 36 3 (.slice (some ⟨w.heap.size, 0, none⟩) k n) k xs) := hownr
    have HU : Hid (Built K L k xs) := hbu
    have hlt0 : Hid (w.heap.size < wr.heap.size) := (hownr.lt _ rfl).2
    clear hownr hbu
    by_cases hlt : k < n
    · obtain ⟨ka, kc, pa, pc, ov, h0, h1, h2⟩ := h.later hbr k hlt
      have hi1 : (k : Int) < (n : Int) := by omega
      have hi0' : (0 : Int) ≤ (k : Int) := by omega
      have hne : some b ≠ some w.heap.size := by
        obtain ⟨_, _, _, _, _, g0, _, _⟩ := h k hlt
        have := World.block_lt_of_cell? _ _ g0
        simp at this ⊢
        omega
      clear h hbr
      cases flip with
      | true =>
        go_wp2
        go_region_held3 (fun w' => w'.cell? ⟨b, o + k * 3, none⟩ = some (.slice ka (K k) kc) ∧ w'.cell? ⟨b, o + k * 3 + 1, none⟩ = some (.slice pa (L k) pc))
          (first
            | go_keep
            | exact ⟨cell_later hb13 (by assumption), cell_later hb13 (by assumption)⟩
            | (go_split_ands; exact ⟨hgrow3.cell (by assumption) hne, hgrow3.cell (by assumption) hne⟩))
          (first
            | (go_at_call 13; refine (newCell13 ka (K k) kc pa (L k) pc (!ov) _).mono ?_; rintro e w2 ⟨rfl, hb13⟩)
            | (refine step_append_fits (by rfl) _ _ 26 (by rfl) w.heap.size 36 i0 3 Try.underlying26 hi hz1 w.heap.size k n xs (by rfl) ((owns_later (HO.out.drew) hb13).alloc _) ⟨w2.heap.size, 0, none⟩ 1 1 [.slice ka (K k) kc, .slice pa (L k) pc, .bool (!ov)] (by rfl) (by rfl) (World.news_of_block (cs := #[.slice ka (K k) kc, .slice pa (L k) pc, .bool (!ov)]) (t := 36) (fr := (0, 0)) (heap_alloc_new w2 _)) (by simp [Value.oneCell']) (by omega) ?_; intro w3 hown3 hgrow3))
        have HW : Hid (Below w.heap.size w w3) := build_step HB.out hb13 hgrow3
        have HO3 : Hid (w3.ownsRow w.heap.size 36 3 (.slice (some ⟨w.heap.size, 0, none⟩) (k + 1) n) (k + 1) (xs ++ [.slice ka (K k) kc, .slice pa (L k) pc, .bool (!ov)])) := hown3
        clear hown3 hgrow3 hb13 h0 h1 h2
        go_wp2
        go_roundw
        case rel => exact ⟨k + 1, _, by omega, by go_num, rfl, HO3.out, HU.out.push ka kc pa pc (!ov), HW.out⟩
        case measure => simp [intOf]; omega
      | false =>
        go_wp2
        go_region_held3 (fun w' => w'.cell? ⟨b, o + k * 3, none⟩ = some (.slice ka (K k) kc) ∧ w'.cell? ⟨b, o + k * 3 + 1, none⟩ = some (.slice pa (L k) pc))
          (first
            | go_keep
            | exact ⟨cell_later hb13 (by assumption), cell_later hb13 (by assumption)⟩
            | (go_split_ands; exact ⟨hgrow3.cell (by assumption) hne, hgrow3.cell (by assumption) hne⟩))
          (first
            | (go_at_call 13; refine (newCell13 ka (K k) kc pa (L k) pc ov _).mono ?_; rintro e w2 ⟨rfl, hb13⟩)
            | (refine step_append_fits (by rfl) _ _ 26 (by rfl) w.heap.size 36 i0 3 Try.underlying26 hi hz1 w.heap.size k n xs (by rfl) ((owns_later (HO.out.drew) hb13).alloc _) ⟨w2.heap.size, 0, none⟩ 1 1 [.slice ka (K k) kc, .slice pa (L k) pc, .bool ov] (by rfl) (by rfl) (World.news_of_block (cs := #[.slice ka (K k) kc, .slice pa (L k) pc, .bool ov]) (t := 36) (fr := (0, 0)) (heap_alloc_new w2 _)) (by simp [Value.oneCell']) (by omega) ?_; intro w3 hown3 hgrow3))
        have HW : Hid (Below w.heap.size w w3) := build_step HB.out hb13 hgrow3
        have HO3 : Hid (w3.ownsRow w.heap.size 36 3 (.slice (some ⟨w.heap.size, 0, none⟩) (k + 1) n) (k + 1) (xs ++ [.slice ka (K k) kc, .slice pa (L k) pc, .bool ov])) := hown3
        clear hown3 hgrow3 hb13 h0 h1 h2
        go_wp2
        go_roundw
        case rel => exact ⟨k + 1, _, by omega, by go_num, rfl, HO3.out, HU.out.push ka kc pa pc ov, HW.out⟩
        case measure => simp [intOf]; omega
    · clear h
      go_wp2
      go_ret
      obtain rfl : k = n := by omega
      exact ⟨rfl, HU.out.cells HO.out, HB.out⟩

set_option maxHeartbeats 400000 in
theorem build8_zero (flip : Bool) (a : Option Addr) (cap : Nat) (w : World) :
    Calls Try.prog 8 #[.slice a 0 cap, .bool flip] w fun e w' => e = .returned (.slice (some ⟨w.heap.size, 0, none⟩) 0 0) ∧ Below w.heap.size w w' := by
  obtain ⟨i0, hi, hz0, hz1, hz2⟩ := info_parts Try.info36
  go_enter Try.func8, Try.ntmps8
  go_wp2_with (first | (at_make; refine wpList_make_own w rfl _ _ 26 rfl w.heap.size 36 i0 _ 3 Try.underlying26 hi hz0 hz1 .i64 .i64 _ 0 rfl rfl rfl (by rw [hz2]; omega) (by unfold maxLen; omega) (Nat.le_refl _) ?_; intro w1 hown hgrow))
  have hb1 : Below w.heap.size w w1 := (Below.refl _ _).grown hgrow (Nat.le_refl _) (by simp)
  clear hgrow hown
  refine wp_loop_rounds 1 ?_
  rw [rounds_succ]
  go_wp2
  go_ret
  exact ⟨rfl, hb1⟩

end Go.Proofs.Qxb6634886a
