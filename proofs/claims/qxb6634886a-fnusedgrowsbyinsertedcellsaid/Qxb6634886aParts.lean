/-
  Seat b6634886a: the contracts at every length, the empty slice too; the plain law on the room of a node.
-/
import Derived.Test.Qxb6634886aBounds
import Derived.Test.Qxb6634886aCloneC
import Derived.Test.Qxb6634886aBuild
namespace Go.Proofs.Qxb6634886a
open Go.RowKit

/-- A slice of n cells, the empty one (whatever its address) too. -/
def CellsO (w : World) (a : Option Addr) (n : Nat) (K L : Nat → Nat) : Prop := 0 < n → ∃ b o, a = some ⟨b, o, none⟩ ∧ CellsAt w b o n K L

theorem CellsO.later {w w' : World} {a : Option Addr} {n : Nat} {K L : Nat → Nat} (h : CellsO w a n K L) (hb : Below w.heap.size w w') : CellsO w' a n K L := fun hn => by
  obtain ⟨b, o, e, hc⟩ := h hn
  exact ⟨b, o, e, hc.later hb⟩

theorem CellsAt.o {w : World} {b o n : Nat} {K L : Nat → Nat} (h : CellsAt w b o n K L) : CellsO w (some ⟨b, o, none⟩) n K L := fun _ => ⟨b, o, rfl, h⟩

theorem used_any (kind : Int) (a : Option Addr) (n cap : Nat) (K L : Nat → Nat) (w : World) (hn : 6 * n + total K L n ≤ 8000000) (h : CellsO w a n K L) :
    Calls Try.prog 9 #[.int .u8 kind, .slice a n cap] w fun e w' => e = .returned (.int .i64 (usedOf kind n K L)) ∧ Below w.heap.size w w' := by
  rcases Nat.eq_zero_or_pos n with rfl | hpos
  · refine (used9_zero kind a cap w).mono fun e w' ⟨he, hw⟩ => ⟨he.trans (ret_int ?_), hw⟩
    simp [usedOf, lessKey, total_zero]
  · obtain ⟨b, o, rfl, hc⟩ := h hpos
    exact used9 kind b o n cap K L w hn hc hpos

theorem build_any (flip : Bool) (a : Option Addr) (n cap : Nat) (K L : Nat → Nat) (w : World) (hn : n ≤ 1048576) (h : CellsO w a n K L) :
    Calls Try.prog 8 #[.slice a n cap, .bool flip] w fun e w' => e = .returned (.slice (some ⟨w.heap.size, 0, none⟩) n n) ∧ CellsAt w' w.heap.size 0 n K L ∧ Below w.heap.size w w' := by
  rcases Nat.eq_zero_or_pos n with rfl | hpos
  · exact (build8_zero flip a cap w).mono fun e w' ⟨he, hw⟩ => ⟨he, fun i hi => absurd hi (Nat.not_lt_zero i), hw⟩
  · obtain ⟨b, o, rfl, hc⟩ := h hpos
    exact build8 flip b o n cap K L w hn hc

theorem CellsAt.take {w : World} {b o n c : Nat} {K L : Nat → Nat} (h : CellsAt w b o n K L) (hc : c ≤ n) : CellsAt w b o c K L := fun i hi => h i (by omega)

theorem CellsAt.drop {w : World} {b o n c : Nat} {K L : Nat → Nat} (h : CellsAt w b o n K L) (hc : c ≤ n) : CellsAt w b (o + c * 3) (n - c) (fun i => K (c + i)) (fun i => L (c + i)) := fun i hi => by
  obtain ⟨ka, kc, pa, pc, ov, h0, h1, h2⟩ := h (c + i) (by omega)
  rw [show o + (c + i) * 3 = o + c * 3 + i * 3 by omega] at h0 h1 h2
  exact ⟨ka, kc, pa, pc, ov, h0, h1, h2⟩

theorem total_mono (K L : Nat → Nat) {c n : Nat} (h : c ≤ n) : total K L c ≤ total K L n := by
  have ht := total_add K L c (n - c)
  rw [show c + (n - c) = n by omega] at ht
  omega

theorem total_drop (K L : Nat → Nat) {c n : Nat} (h : c ≤ n) : total (fun i => K (c + i)) (fun i => L (c + i)) (n - c) ≤ total K L n := by
  have ht := total_add K L c (n - c)
  rw [show c + (n - c) = n by omega] at ht
  omega

theorem usedOf_bd (kind : Int) {n : Nat} {K L : Nat → Nat} (hn : 6 * n + total K L n ≤ 8000000) : 0 ≤ usedOf kind n K L ∧ usedOf kind n K L ≤ 9000000 := by
  have := lessKey_le kind n K L
  unfold usedOf
  omega

theorem usedOf_zero (kind : Int) (K L : Nat → Nat) : usedOf kind 0 K L = 4 := by simp [usedOf, lessKey, total_zero]

/-- THE PLAIN LAW OF THE CUT. -/
theorem used_cut (kind : Int) {c n : Nat} (h : c ≤ n) (K L : Nat → Nat) :
    usedOf kind n K L = usedOf kind c K L + usedOf kind (n - c) (fun i => K (c + i)) (fun i => L (c + i)) - 4 + ((if kind = 2 ∧ 0 < c ∧ c < n then K c else 0 : Nat) : Int) := by
  have ht := total_add K L c (n - c)
  rw [show c + (n - c) = n by omega] at ht
  unfold usedOf lessKey
  by_cases hk : kind = 2
  · by_cases h0 : 0 < c
    · by_cases h1 : c < n
      · simp only [hk, h0, h1, show 0 < n by omega, show 0 < n - c by omega, and_self, if_true, Nat.add_zero]; omega
      · simp only [hk, h0, h1, show 0 < n by omega, show ¬ 0 < n - c by omega, and_self, and_false, if_true, if_false]; omega
    · obtain rfl : c = 0 := by omega
      by_cases h1 : 0 < n
      · simp only [hk, h1, Nat.sub_zero, and_self, and_true, if_true, Nat.lt_irrefl, and_false, if_false, Nat.add_zero, Nat.zero_add]; simp only [Nat.zero_add, Nat.sub_zero] at ht; omega
      · simp only [hk, h1, Nat.sub_zero, and_false, Nat.lt_irrefl, if_false, Nat.zero_add]; simp only [Nat.zero_add, Nat.sub_zero] at ht; omega
  · simp only [hk, false_and, if_false]; omega

theorem cut_in {U A B kind : Int} {k c n : Nat} (HE : U = A + B - 4 + ((if kind = 2 ∧ 0 < c ∧ c < n then k else 0 : Nat) : Int)) (h : (kind == 2) = true) (h0 : 0 < c) (h1 : c < n) : (U == A + B - 4 + (k : Int)) = true := by
  have h2 : kind = 2 := by simpa using h
  rw [if_pos ⟨h2, h0, h1⟩] at HE
  simp [HE]

theorem cut_out {U A B kind : Int} {k c n : Nat} (HE : U = A + B - 4 + ((if kind = 2 ∧ 0 < c ∧ c < n then k else 0 : Nat) : Int)) (h : (kind == 2) = false ∨ ¬ 0 < c ∨ ¬ c < n) : (U == A + B - 4) = true := by
  rw [if_neg (fun ⟨h2, h0, h1⟩ => by rcases h with h | h | h; · simp [h2] at h
                                     · exact h h0
                                     · exact h h1)] at HE
  simp [HE]

theorem ret_bool {b : Bool} (h : b = true) : Ending.returned (.bool b) = .returned (.bool true) := by rw [h]

end Go.Proofs.Qxb6634886a
