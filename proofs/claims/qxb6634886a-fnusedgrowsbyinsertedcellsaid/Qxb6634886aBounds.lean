/-
  Seat b6634886a: the two bounds laid by program (functions 5 and 11): each returns a bool and turns nothing.
-/
import Derived.Test.Qxb6634886aBase
namespace Go.Proofs.Qxb6634886a
open Go.RowKit

set_option maxHeartbeats 400000 in
theorem bytes5 (kind cut : Int) (b o n cap : Nat) (K L : Nat → Nat) (w : World) (h : CellsAt w b o n K L) :
    Calls Try.prog 5 #[.int .u8 kind, .slice (some ⟨b, o, none⟩) n cap, .int .i64 cut] w fun e w' => IsBool e ∧ w' = w := by
  by_cases hn : n ≤ 1048576
  · go_enter Try.func5, Try.ntmps5
    go_wp2
    go_loop [6, 7, 8] (fun r t i => ∃ (k z : Nat), k ≤ n ∧ z ≤ 1048576 ∧ i = .int .i64 k ∧ t = .int .i64 z ∧ r = .bool false) (fun _ _ i => n - (intOf i).toNat)
    case atStart => exact ⟨0, n, by omega, by omega, rfl, rfl, rfl⟩
    case round =>
      obtain ⟨k, z, hk, hz, rfl, rfl, rfl⟩ := hrel
      by_cases hlt : k < n
      · obtain ⟨ka, kc, pa, pc, ov, h0, h1, h2⟩ := h k hlt
        clear h h2
        go_wp2
        case roundEnd =>
          go_round
          case rel => exact ⟨k + 1, z + K k + L k, by omega, by omega, by go_num, by go_num, rfl⟩
          case measure => simp [intOf]; omega
        all_goals
          go_ret
          exact ⟨isBool _, rfl⟩
      · go_wp2
        all_goals
          go_ret
          exact ⟨isBool _, rfl⟩
  · go_enter Try.func5, Try.ntmps5
    go_wp2
    go_ret
    exact ⟨isBool _, rfl⟩

set_option maxHeartbeats 400000 in
theorem bytes5_zero (kind cut : Int) (a : Option Addr) (cap : Nat) (w : World) :
    Calls Try.prog 5 #[.int .u8 kind, .slice a 0 cap, .int .i64 cut] w fun e w' => IsBool e ∧ w' = w := by
  go_enter Try.func5, Try.ntmps5
  go_wp2
  refine wp_loop_rounds 1 ?_
  rw [rounds_succ]
  go_wp2
  all_goals
    go_ret
    exact ⟨isBool _, rfl⟩

set_option maxHeartbeats 400000 in
theorem bytes11 (kind at_ : Int) (ka : Option Addr) (kn kc : Nat) (pa : Option Addr) (pn pc : Nat) (ov : Bool) (b o n cap : Nat) (K L : Nat → Nat) (w : World) (h : CellsAt w b o n K L) :
    Calls Try.prog 11 #[.int .u8 kind, .slice (some ⟨b, o, none⟩) n cap, .int .i64 at_, .slice ka kn kc, .slice pa pn pc, .bool ov] w fun e w' => IsBool e ∧ w' = w := by
  by_cases hn : n ≤ 1048576
  · go_enter Try.func11, Try.ntmps11
    go_wp2
    go_loop [12, 13, 14] (fun r t i => ∃ (k z : Nat), k ≤ n ∧ z ≤ 1048576 ∧ i = .int .i64 k ∧ t = .int .i64 z ∧ r = .bool false) (fun _ _ i => n - (intOf i).toNat)
    case atStart => exact ⟨0, n, by omega, by omega, rfl, rfl, rfl⟩
    case round =>
      obtain ⟨k, z, hk, hz, rfl, rfl, rfl⟩ := hrel
      by_cases hlt : k < n
      · obtain ⟨ka, kc, pa, pc, ov, h0, h1, h2⟩ := h k hlt
        clear h h2
        go_wp2
        case roundEnd =>
          go_round
          case rel => exact ⟨k + 1, z + K k + L k, by omega, by omega, by go_num, by go_num, rfl⟩
          case measure => simp [intOf]; omega
        all_goals
          go_ret
          exact ⟨isBool _, rfl⟩
      · go_wp2
        all_goals
          go_ret
          exact ⟨isBool _, rfl⟩
  · go_enter Try.func11, Try.ntmps11
    go_wp2
    go_ret
    exact ⟨isBool _, rfl⟩

set_option maxHeartbeats 400000 in
theorem bytes11_zero (kind at_ : Int) (ka : Option Addr) (kn kc : Nat) (pa : Option Addr) (pn pc : Nat) (ov : Bool) (a : Option Addr) (cap : Nat) (w : World) :
    Calls Try.prog 11 #[.int .u8 kind, .slice a 0 cap, .int .i64 at_, .slice ka kn kc, .slice pa pn pc, .bool ov] w fun e w' => IsBool e ∧ w' = w := by
  go_enter Try.func11, Try.ntmps11
  go_wp2
  refine wp_loop_rounds 1 ?_
  rw [rounds_succ]
  go_wp2
  all_goals
    go_ret
    exact ⟨isBool _, rfl⟩

end Go.Proofs.Qxb6634886a
