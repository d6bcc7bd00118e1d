/-
  Seat b6634886a: the package's own functions: cell.size (16), unstored (15), node.used (14), ZZusedOf (9), ZZnewCell (13).
-/
import Derived.Test.Qxb6634886aFits
namespace Go.Proofs.Qxb6634886a
open Go.RowKit

set_option maxHeartbeats 400000 in
theorem size16 (ka : Option Addr) (kn kc : Nat) (pa : Option Addr) (pn pc : Nat) (ov : Bool) (w : World) (hk : kn ≤ 8000000) (hp : pn ≤ 8000000) :
    Calls Try.prog 16 #[.agg #[.slice ka kn kc, .slice pa pn pc, .bool ov]] w fun e w' => e = .returned (.int .i64 (6 + kn + pn)) ∧ Below w.heap.size w w' := by
  go_enter Try.func16, Try.ntmps16
  go_wp2
  go_ret
  exact ⟨rfl, (Below.refl _ _).alloc (Nat.le_refl _) _⟩

set_option maxHeartbeats 400000 in
theorem unstored15 (kind : Int) (b o n cap : Nat) (K L : Nat → Nat) (w : World) (h : CellsAt w b o n K L) (hpos : 0 < n) :
    Calls Try.prog 15 #[.int .u8 kind, .slice (some ⟨b, o, none⟩) n cap] w fun e w' => e = .returned (.int .i64 (lessKey kind n K)) ∧ w' = w := by
  obtain ⟨ka, kc, pa, pc, ov, h0, h1, h2⟩ := h 0 hpos
  simp only [Nat.zero_mul, Nat.add_zero] at h0
  clear h h1 h2
  have hp' : (0 : Int) < (n : Int) := by omega
  have main : ∀ (kd : Bool), (kind == 2) = kd → Calls Try.prog 15 #[.int .u8 kind, .slice (some ⟨b, o, none⟩) n cap] w fun e w' => e = .returned (.int .i64 (lessKey kind n K)) ∧ w' = w := by
    intro kd hkd
    cases kd with
    | true =>
      go_enter Try.func15, Try.ntmps15
      go_wp2
      go_ret
      have hk2 : kind = 2 := by simpa using hkd
      exact ⟨ret_int (by simp [lessKey, hk2, hpos]), rfl⟩
    | false =>
      go_enter Try.func15, Try.ntmps15
      go_wp2
      go_ret
      have hk2 : ¬ kind = 2 := by simpa using hkd
      exact ⟨ret_int (by simp [lessKey, hk2]), rfl⟩
  exact main _ rfl

set_option maxHeartbeats 400000 in
theorem unstored15_zero (kind : Int) (a : Option Addr) (cap : Nat) (w : World) :
    Calls Try.prog 15 #[.int .u8 kind, .slice a 0 cap] w fun e w' => e = .returned (.int .i64 0) ∧ w' = w := by
  have main : ∀ (kd : Bool), (kind == 2) = kd → Calls Try.prog 15 #[.int .u8 kind, .slice a 0 cap] w fun e w' => e = .returned (.int .i64 0) ∧ w' = w := by
    intro kd hkd
    cases kd
    all_goals
      go_enter Try.func15, Try.ntmps15
      go_wp2
      go_ret
      exact ⟨rfl, rfl⟩
  exact main _ rfl

set_option maxHeartbeats 400000 in
theorem used14 (kind : Int) (b o n cap : Nat) (K L : Nat → Nat) (w : World) (hn : 6 * n + total K L n ≤ 8000000) (h : CellsAt w b o n K L) (hpos : 0 < n) :
    Calls Try.prog 14 #[.agg #[.int .u8 kind, .slice (some ⟨b, o, none⟩) n cap]] w fun e w' => e = .returned (.int .i64 (usedOf kind n K L)) ∧ Below w.heap.size w w' := by
  have HN : Hid (6 * n + total K L n ≤ 8000000) := hn
  have hn1 : n ≤ 8000000 := by omega
  have hle := lessKey_le kind n K L
  obtain ⟨u, hu⟩ : ∃ u, u = lessKey kind n K := ⟨_, rfl⟩
  have HU : Hid (u = lessKey kind n K) := hu
  have hu1 : u ≤ 8000000 := by omega
  have hU : Hid (u ≤ total K L n) := by rw [HU.out]; exact hle
  have h15 : ∀ W, Below w.heap.size w W → Calls Try.prog 15 #[.int .u8 kind, .slice (some ⟨b, o, none⟩) n cap] W fun e w' => e = .returned (.int .i64 u) ∧ w' = W := fun W hW => by
    rw [HU.out]; exact unstored15 kind b o n cap K L W (h.later hW) hpos
  have H15 : Hid (∀ W, Below w.heap.size w W → Calls Try.prog 15 #[.int .u8 kind, .slice (some ⟨b, o, none⟩) n cap] W fun e w' => e = .returned (.int .i64 u) ∧ w' = W) := h15
  clear hn hle hu h15
  go_enter Try.func14, Try.ntmps14
  go_wp2_with (first | (go_at_call 15; refine (H15.out _ ?_).mono ?_; exact (Below.refl _ _).alloc (Nat.le_refl _) _; rintro e w' ⟨rfl, rfl⟩))
  go_loopw [3, 15] (fun t i wr => ∃ (k : Nat) (z : Int), k ≤ n ∧ -9000000 ≤ z ∧ z ≤ 9000000 ∧ i = .int .i64 k ∧ t = .int .i64 z ∧ Hid (z = 4 - u + 6 * k + total K L k) ∧ Below w.heap.size w wr) (fun _ i _ => n - (intOf i).toNat)
  case atStart => exact ⟨0, 4 - u, by omega, by omega, by omega, rfl, rfl, (show (4 - (u : Int)) = _ by simp [total_zero]), (Below.refl _ _).alloc (Nat.le_refl _) _⟩
  case round =>
    obtain ⟨k, z, hk, hz0, hz1, rfl, rfl, HE, hbr⟩ := hrel
    have HB : Hid (Below w.heap.size w wr) := hbr
    by_cases hlt : k < n
    · obtain ⟨ka, kc, pa, pc, ov, h0, h1, h2⟩ := h.later hbr k hlt
      have hlt' : (k : Int) < (n : Int) := by omega
      have ht := total_lt K L hlt
      have hKk : K k ≤ 8000000 := by have := HN.out; omega
      have hLk : L k ≤ 8000000 := by have := HN.out; omega
      have hlast : z + (6 + ↑(K k) + ↑(L k)) ≤ 9000000 := by have := HN.out; have := HE.out; omega
      have hsz : w.heap.size ≤ wr.heap.size := hbr.size
      clear h hbr ht
      go_wp2_with (first | (go_at_call 16; refine (size16 ka (K k) kc pa (L k) pc ov _ hKk hLk).mono ?_; rintro e w' ⟨rfl, hb16⟩))
      go_roundw
      case rel => exact ⟨k + 1, z + (6 + ↑(K k) + ↑(L k)), by omega, by omega, hlast, by go_num, rfl, (show _ = _ by have := HE.out; rw [total_succ]; omega), (HB.out.alloc hsz _).trans (hb16.mono (by simp; omega))⟩
      case measure => simp [intOf]; omega
    · clear h hbr
      go_wp2
      go_ret
      refine ⟨ret_int ?_, HB.out⟩
      obtain rfl : k = n := by omega
      have := HE.out
      have := HU.out
      unfold usedOf
      omega

set_option maxHeartbeats 400000 in
theorem used14_zero (kind : Int) (a : Option Addr) (cap : Nat) (w : World) :
    Calls Try.prog 14 #[.agg #[.int .u8 kind, .slice a 0 cap]] w fun e w' => e = .returned (.int .i64 4) ∧ Below w.heap.size w w' := by
  go_enter Try.func14, Try.ntmps14
  go_wp2_with (first | (go_at_call 15; refine (unstored15_zero kind a cap _).mono ?_; rintro e w' ⟨rfl, rfl⟩))
  refine wp_loop_rounds 1 ?_
  rw [rounds_succ]
  go_wp2
  go_ret
  exact ⟨rfl, (Below.refl _ _).alloc (Nat.le_refl _) _⟩

set_option maxHeartbeats 400000 in
theorem used9 (kind : Int) (b o n cap : Nat) (K L : Nat → Nat) (w : World) (hn : 6 * n + total K L n ≤ 8000000) (h : CellsAt w b o n K L) (hpos : 0 < n) :
    Calls Try.prog 9 #[.int .u8 kind, .slice (some ⟨b, o, none⟩) n cap] w fun e w' => e = .returned (.int .i64 (usedOf kind n K L)) ∧ Below w.heap.size w w' := by
  have H := used14 kind b o n cap K L w hn h hpos
  have HH : Hid (Calls Try.prog 14 #[.agg #[.int .u8 kind, .slice (some ⟨b, o, none⟩) n cap]] w fun e w' => e = .returned (.int .i64 (usedOf kind n K L)) ∧ Below w.heap.size w w') := H
  clear H h hn
  go_enter Try.func9, Try.ntmps9
  go_wp2_with (first | (go_at_call 14; refine HH.out.mono ?_; rintro e w' ⟨rfl, hb14⟩))
  go_ret
  exact ⟨rfl, hb14⟩

set_option maxHeartbeats 400000 in
theorem used9_zero (kind : Int) (a : Option Addr) (cap : Nat) (w : World) :
    Calls Try.prog 9 #[.int .u8 kind, .slice a 0 cap] w fun e w' => e = .returned (.int .i64 4) ∧ Below w.heap.size w w' := by
  go_enter Try.func9, Try.ntmps9
  go_wp2_with (first | (go_at_call 14; refine (used14_zero kind a cap _).mono ?_; rintro e w' ⟨rfl, hb14⟩))
  go_ret
  exact ⟨rfl, hb14⟩

set_option maxHeartbeats 400000 in
theorem newCell13 (ka : Option Addr) (kn kc : Nat) (pa : Option Addr) (pn pc : Nat) (ov : Bool) (w : World) :
    Calls Try.prog 13 #[.slice ka kn kc, .slice pa pn pc, .bool ov] w fun e w' => e = .returned (.agg #[.slice ka kn kc, .slice pa pn pc, .bool ov]) ∧ Below w.heap.size w w' := by
  go_enter Try.func13, Try.ntmps13
  go_wp2
  exact bodyPost_ret (v := .agg #[.slice ka kn kc, .slice pa pn pc, .bool ov]) (by simp [results, Try.results13, go_sem]) rfl ⟨rfl, (Below.refl _ _).alloc (Nat.le_refl _) _⟩

end Go.Proofs.Qxb6634886a
