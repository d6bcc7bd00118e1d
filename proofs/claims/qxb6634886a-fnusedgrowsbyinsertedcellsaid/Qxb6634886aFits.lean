/-
  Seat b6634886a: zzFitsBytes (6), zzLayoutUsed (10): they only read.
-/
import Derived.Test.Qxb6634886aBase
namespace Go.Proofs.Qxb6634886a
open Go.RowKit

/-- What zzFitsBytes returns: a bool; where it is true the sum stays within the limit. -/
def FitsOut (e : Ending) (extra : Int) (n : Nat) (K L : Nat → Nat) : Prop :=
  ∃ r, e = .returned (.bool r) ∧ (r = true → 0 ≤ extra ∧ extra + 56 * n + total K L n ≤ 1048576)

theorem fitsOut_false (extra : Int) (n : Nat) (K L : Nat → Nat) : FitsOut (.returned (.bool false)) extra n K L := ⟨false, rfl, by simp⟩
theorem fitsOut_true {extra : Int} {n : Nat} {K L : Nat → Nat} (h0 : 0 ≤ extra) (h : extra + 56 * n + total K L n ≤ 1048576) : FitsOut (.returned (.bool true)) extra n K L := ⟨true, rfl, fun _ => ⟨h0, h⟩⟩

set_option maxHeartbeats 400000 in
theorem fits (extra : Int) (b o n cap : Nat) (K L : Nat → Nat) (w : World) (hn : n ≤ maxLen) (h : CellsAt w b o n K L) :
    Calls Try.prog 6 #[.slice (some ⟨b, o, none⟩) n cap, .int .i64 extra] w fun e w' => FitsOut e extra n K L ∧ Below w.heap.size w w' := by
  unfold maxLen at hn
  by_cases he : 0 ≤ extra
  · by_cases he2 : extra ≤ 1048576
    · go_enter Try.func6, Try.ntmps6
      go_wp2
      go_loopw [4, 5, 6] (fun r t i wr => ∃ (k : Nat) (z : Int), k ≤ n ∧ 0 ≤ z ∧ z ≤ 1048576 ∧ i = .int .i64 k ∧ t = .int .i64 z ∧ r = .bool false ∧ Hid (z = extra + 56 * k + total K L k) ∧ Below w.heap.size w wr) (fun _ _ i _ => n - (intOf i).toNat)
      case atStart => exact ⟨0, extra, by omega, by omega, by omega, rfl, rfl, rfl, (show extra = _ by simp [total_zero]), Below.refl _ _⟩
      case round =>
        obtain ⟨k, z, hk, hz0, hz1, rfl, rfl, rfl, HE, hbr⟩ := hrel
        have HB : Hid (Below w.heap.size w wr) := hbr
        by_cases hlt : k < n
        · obtain ⟨ka, kc, pa, pc, ov, h0, h1, h2⟩ := h.later hbr k hlt
          clear h h2 hbr
          have hlt' : (k : Int) < (n : Int) := by omega
          by_cases hK : (K k : Int) ≤ 1048576
          · by_cases hL : (L k : Int) ≤ 1048576
            · go_wp2
              go_quiet (fail)
              go_wp2
              case roundEnd =>
                go_roundw
                case rel =>
                  have hle : z + (56 + ↑(K k) + ↑(L k)) ≤ 1048576 := by assumption
                  exact ⟨k + 1, z + (56 + ↑(K k) + ↑(L k)), by omega, by omega, hle, by go_num, rfl, rfl, (show _ = _ by have := HE.out; rw [total_succ]; omega), below_drewN HB.out _⟩
                case measure => simp [intOf]; omega
              all_goals
                go_ret
                exact ⟨fitsOut_false _ _ _ _, below_drewN HB.out _⟩
            · go_wp2
              all_goals
                go_ret
                exact ⟨fitsOut_false _ _ _ _, HB.out⟩
          · go_wp2
            all_goals
              go_ret
              exact ⟨fitsOut_false _ _ _ _, HB.out⟩
        · clear h hbr
          go_wp2
          all_goals
            go_ret
            refine ⟨fitsOut_true he ?_, HB.out⟩
            obtain rfl : k = n := by omega
            have := HE.out
            omega
    · go_enter Try.func6, Try.ntmps6
      go_wp2
      all_goals
        go_ret
        exact ⟨fitsOut_false _ _ _ _, Below.refl _ _⟩
  · go_enter Try.func6, Try.ntmps6
    go_wp2
    all_goals
      go_ret
      exact ⟨fitsOut_false _ _ _ _, Below.refl _ _⟩

set_option maxHeartbeats 400000 in
theorem fits_zero (extra : Int) (a : Option Addr) (cap : Nat) (K L : Nat → Nat) (w : World) :
    Calls Try.prog 6 #[.slice a 0 cap, .int .i64 extra] w fun e w' => FitsOut e extra 0 K L ∧ Below w.heap.size w w' := by
  by_cases he : 0 ≤ extra
  · by_cases he2 : extra ≤ 1048576
    · go_enter Try.func6, Try.ntmps6
      go_wp2
      refine wp_loop_rounds 1 ?_
      rw [rounds_succ]
      go_wp2
      all_goals
        go_ret
        exact ⟨fitsOut_true he (by simp [total_zero]; omega), Below.refl _ _⟩
    · go_enter Try.func6, Try.ntmps6
      go_wp2
      all_goals
        go_ret
        exact ⟨fitsOut_false _ _ _ _, Below.refl _ _⟩
  · go_enter Try.func6, Try.ntmps6
    go_wp2
    all_goals
      go_ret
      exact ⟨fitsOut_false _ _ _ _, Below.refl _ _⟩

theorem ret_int {k : IntKind} {a b : Int} (h : a = b) : Ending.returned (.int k a) = .returned (.int k b) := by rw [h]

set_option maxHeartbeats 400000 in
theorem layout (kind : Int) (b o n cap : Nat) (K L : Nat → Nat) (w : World) (hn : 6 * n + total K L n ≤ 8000000) (h : CellsAt w b o n K L) (hpos : 0 < n) :
    Calls Try.prog 10 #[.int .u8 kind, .slice (some ⟨b, o, none⟩) n cap] w fun e w' => e = .returned (.int .i64 (usedOf kind n K L)) ∧ Below w.heap.size w w' := by
  have HN : Hid (6 * n + total K L n ≤ 8000000) := hn
  have hn1 : n ≤ 8000000 := by omega
  have h00 := total_lt K L hpos
  have hK0 : K 0 ≤ 8000000 := by omega
  clear hn h00
  have hp' : (0 : Int) < (n : Int) := by omega
  have main : ∀ (kd : Bool), (kind == 2) = kd → Calls Try.prog 10 #[.int .u8 kind, .slice (some ⟨b, o, none⟩) n cap] w fun e w' => e = .returned (.int .i64 (usedOf kind n K L)) ∧ Below w.heap.size w w' := by
    intro kd hkd
    go_enter Try.func10, Try.ntmps10
    go_wp2
    go_loopw [5, 6] (fun t i wr => ∃ (k : Nat) (z : Int), k ≤ n ∧ 0 ≤ z ∧ z ≤ 9000000 ∧ i = .int .i64 k ∧ t = .int .i64 z ∧ Hid (z = 4 + 6 * k + total K L k) ∧ Below w.heap.size w wr) (fun _ i _ => n - (intOf i).toNat)
    case atStart => exact ⟨0, 4, by omega, by omega, by omega, rfl, rfl, (show (4 : Int) = _ by simp [total_zero]), Below.refl _ _⟩
    case round =>
      obtain ⟨k, z, hk, hz0, hz1, rfl, rfl, HE, hbr⟩ := hrel
      have HB : Hid (Below w.heap.size w wr) := hbr
      by_cases hlt : k < n
      · obtain ⟨ka, kc, pa, pc, ov, h0, h1, h2⟩ := h.later hbr k hlt
        have hlt' : (k : Int) < (n : Int) := by omega
        have ht := total_lt K L hlt
        have hKk : K k ≤ 8000000 := by have := HN.out; omega
        have hLk : L k ≤ 8000000 := by have := HN.out; omega
        have hlast : z + (6 + ↑(K k) + ↑(L k)) ≤ 9000000 := by have := HN.out; have := HE.out; omega
        clear h h2 hbr ht
        go_wp2
        go_quiet (fail)
        go_wp2
        go_roundw
        case rel => exact ⟨k + 1, z + (6 + ↑(K k) + ↑(L k)), by omega, by omega, hlast, by go_num, rfl, (show _ = _ by have := HE.out; rw [total_succ]; omega), below_drewN HB.out _⟩
        case measure => simp [intOf]; omega
      · obtain rfl : k = n := by omega
        obtain ⟨ka, kc, pa, pc, ov, h0, h1, h2⟩ := h.later hbr 0 hpos
        simp only [Nat.zero_mul, Nat.add_zero] at h0
        clear h h1 h2 hbr
        cases kd with
        | true =>
          go_wp2
          all_goals
            go_ret
            refine ⟨ret_int ?_, HB.out⟩
            have hk2 : kind = 2 := by simpa using hkd
            have := HE.out
            simp only [usedOf, lessKey, hk2, hpos, and_self, if_true]
            omega
        | false =>
          go_wp2
          all_goals
            go_ret
            refine ⟨ret_int ?_, HB.out⟩
            have hk2 : ¬ kind = 2 := by simpa using hkd
            have := HE.out
            simp only [usedOf, lessKey, hk2, false_and, if_false]
            omega
  exact main _ rfl

set_option maxHeartbeats 400000 in
theorem layout_zero (kind : Int) (a : Option Addr) (cap : Nat) (K L : Nat → Nat) (w : World) :
    Calls Try.prog 10 #[.int .u8 kind, .slice a 0 cap] w fun e w' => e = .returned (.int .i64 (usedOf kind 0 K L)) ∧ Below w.heap.size w w' := by
  have main : ∀ (kd : Bool), (kind == 2) = kd → Calls Try.prog 10 #[.int .u8 kind, .slice a 0 cap] w fun e w' => e = .returned (.int .i64 (usedOf kind 0 K L)) ∧ Below w.heap.size w w' := by
    intro kd hkd
    cases kd
    all_goals
      go_enter Try.func10, Try.ntmps10
      go_wp2
      refine wp_loop_rounds 1 ?_
      rw [rounds_succ]
      go_wp2
      all_goals
        go_ret
        refine ⟨ret_int ?_, Below.refl _ _⟩
        simp [usedOf, lessKey, total_zero]
  exact main _ rfl

end Go.Proofs.Qxb6634886a
