/-
  Seat b6634886a: contracts at every length that the second law wants; a cell put in: the plain law.
-/
import Derived.Test.Qxb6634886aParts
namespace Go.Proofs.Qxb6634886a
open Go.RowKit

/-- A slice of n cells that came in, the empty one too. -/
def CellsInO (w : World) (a : Option Addr) (n : Nat) (K L : Nat → Nat) : Prop := 0 < n → ∃ b o, a = some ⟨b, o, none⟩ ∧ CellsIn w b o n K L

theorem CellsInO.later {w w' : World} {a : Option Addr} {n : Nat} {K L : Nat → Nat} (h : CellsInO w a n K L) (hb : Below w.heap.size w w') : CellsInO w' a n K L := fun hn => by
  obtain ⟨b, o, e, hc⟩ := h hn
  exact ⟨b, o, e, hc.later hb⟩

theorem bytes11_any (kind at_ : Int) (ka : Option Addr) (kn kc : Nat) (pa : Option Addr) (pn pc : Nat) (ov : Bool) (a : Option Addr) (n cap : Nat) (K L : Nat → Nat) (w : World) (h : CellsInO w a n K L) :
    Calls Try.prog 11 #[.int .u8 kind, .slice a n cap, .int .i64 at_, .slice ka kn kc, .slice pa pn pc, .bool ov] w fun e w' => IsBool e ∧ w' = w := by
  rcases Nat.eq_zero_or_pos n with rfl | hpos
  · exact bytes11_zero kind at_ ka kn kc pa pn pc ov a cap w
  · obtain ⟨b, o, rfl, hc⟩ := h hpos
    exact bytes11 kind at_ ka kn kc pa pn pc ov b o n cap K L w hc.at_

theorem fits_any (extra : Int) (a : Option Addr) (n cap : Nat) (K L : Nat → Nat) (w : World) (hn : n ≤ maxLen) (h : CellsInO w a n K L) :
    Calls Try.prog 6 #[.slice a n cap, .int .i64 extra] w fun e w' => FitsOut e extra n K L ∧ Below w.heap.size w w' := by
  rcases Nat.eq_zero_or_pos n with rfl | hpos
  · exact fits_zero extra a cap K L w
  · obtain ⟨b, o, rfl, hc⟩ := h hpos
    exact fits extra b o n cap K L w hn hc.at_

theorem cloneC_any (a : Option Addr) (n cap : Nat) (K L : Nat → Nat) (w : World) (hn : n ≤ 1048576) (hK : ∀ i, i < n → K i ≤ 1048576) (hL : ∀ i, i < n → L i ≤ 1048576) (h : CellsInO w a n K L) :
    Calls Try.prog 7 #[.slice a n cap] w fun e w' => (∃ a' c', e = .returned (.slice a' n c') ∧ CellsO w' a' n K L) ∧ Below w.heap.size w w' := by
  rcases Nat.eq_zero_or_pos n with rfl | hpos
  · exact (cloneC_zero a cap w).mono fun e w' ⟨⟨a', c', he⟩, hw⟩ => ⟨⟨a', c', he, fun h => absurd h (Nat.lt_irrefl 0)⟩, hw⟩
  · obtain ⟨b, o, rfl, hc⟩ := h hpos
    exact (cloneC_some b o n cap K L w hn hK hL hc).mono fun e w' ⟨he, hc', hw⟩ => ⟨⟨_, _, he, hc'.o⟩, hw⟩

/-- f with x put in at place c. -/
def insAt (f : Nat → Nat) (c x : Nat) : Nat → Nat := fun i => if i < c then f i else if i = c then x else f (i - 1)

theorem insAt_lt (f : Nat → Nat) {c x i : Nat} (h : i < c) : insAt f c x i = f i := by simp [insAt, h]
theorem insAt_eq (f : Nat → Nat) (c x : Nat) : insAt f c x c = x := by simp [insAt]
theorem insAt_gt (f : Nat → Nat) {c x i : Nat} (h : c ≤ i) : insAt f c x (i + 1) = f i := by
  unfold insAt
  rw [if_neg (by omega), if_neg (by omega)]
  rfl

theorem total_ins_lo (K L : Nat → Nat) (c x y : Nat) : total (insAt K c x) (insAt L c y) c = total K L c :=
  total_congr (fun _ hi => insAt_lt K hi) (fun _ hi => insAt_lt L hi)

theorem total_ins (K L : Nat → Nat) {c n : Nat} (h : c ≤ n) (x y : Nat) : total (insAt K c x) (insAt L c y) (n + 1) = total K L n + (x + y) := by
  obtain ⟨m, rfl⟩ : ∃ m, n = c + m := ⟨n - c, by omega⟩
  induction m with
  | zero =>
    show total _ _ (c + 1) = total K L c + (x + y)
    rw [total_succ, total_ins_lo, insAt_eq, insAt_eq]
  | succ m ih =>
    rw [← Nat.add_assoc, total_succ, ih (by omega), total_succ, insAt_gt K (by omega), insAt_gt L (by omega)]
    omega

/-- THE PLAIN LAW OF A CELL PUT IN. -/
theorem used_ins (kind : Int) (K L : Nat → Nat) {c n : Nat} (h : c ≤ n) (x y : Nat) :
    usedOf kind (n + 1) (insAt K c x) (insAt L c y) + ((if kind = 2 ∧ c = 0 then x else 0 : Nat) : Int) = usedOf kind n K L + (6 + x + y) + ((if kind = 2 ∧ c = 0 ∧ 0 < n then K 0 else 0 : Nat) : Int) := by
  have ht := total_ins K L h x y
  unfold usedOf lessKey
  by_cases hk : kind = 2
  · by_cases h0 : c = 0
    · subst h0
      have e0 := insAt_eq K 0 x
      by_cases h1 : 0 < n
      · simp only [hk, h1, and_self, if_true, Nat.zero_lt_succ, e0]; omega
      · simp only [hk, h1, and_self, and_false, if_true, if_false, Nat.zero_lt_succ, e0]; omega
    · have e0 := insAt_lt K (x := x) (show 0 < c by omega)
      have h1 : 0 < n := by omega
      simp only [hk, h0, h1, and_self, and_false, false_and, if_true, if_false, Nat.zero_lt_succ, e0]; omega
  · simp only [hk, false_and, if_false]; omega

/-- The node of one cell. -/
theorem used_one (kind : Int) (x y : Nat) : usedOf kind 1 (fun _ => x) (fun _ => y) = 10 + y + ((if kind = 2 then 0 else x : Nat) : Int) := by
  unfold usedOf lessKey total sumTo sumTo
  by_cases hk : kind = 2
  · simp [hk]; omega
  · simp [hk]; omega

/-! ### A row that grows by a cell put in -/
theorem Built.lo {K L : Nat → Nat} {c : Nat} {xs : List Value} (h : Built K L c xs) (x y : Nat) : Built (insAt K c x) (insAt L c y) c xs := by
  refine ⟨h.1, fun i hi => ?_⟩
  rw [insAt_lt K hi, insAt_lt L hi]
  exact h.2 i hi

theorem Built.mid {K L : Nat → Nat} {c : Nat} {xs : List Value} (h : Built K L c xs) (ka : Option Addr) (kn kc : Nat) (pa : Option Addr) (pn pc : Nat) (ov : Bool) :
    Built (insAt K c kn) (insAt L c pn) (c + 1) (xs ++ [.slice ka kn kc, .slice pa pn pc, .bool ov]) := by
  have := (h.lo kn pn).push ka kc pa pc ov
  rwa [insAt_eq, insAt_eq] at this

theorem Built.hi {K L : Nat → Nat} {c k x y : Nat} {xs : List Value} (h : Built (insAt K c x) (insAt L c y) (k + 1) xs) (hc : c ≤ k) (ka : Option Addr) (kc : Nat) (pa : Option Addr) (pc : Nat) (ov : Bool) :
    Built (insAt K c x) (insAt L c y) (k + 1 + 1) (xs ++ [.slice ka (K k) kc, .slice pa (L k) pc, .bool ov]) := by
  have := h.push ka kc pa pc ov
  rwa [insAt_gt K hc, insAt_gt L hc] at this

theorem CellsAt.one {w : World} {b n c x y : Nat} {K L : Nat → Nat} (h : CellsAt w b 0 (n + 1) (insAt K c x) (insAt L c y)) (hc : c ≤ n) : CellsAt w b (c * 3) 1 (fun _ => x) (fun _ => y) := fun i hi => by
  obtain rfl : i = 0 := by omega
  obtain ⟨ka, kc, pa, pc, ov, h0, h1, h2⟩ := h c (by omega)
  rw [insAt_eq] at h0 h1
  rw [Nat.zero_add] at h0 h1 h2
  exact ⟨ka, kc, pa, pc, ov, h0, h1, h2⟩

/-! ### The tests at the end of the law, in the walk's own forms -/
theorem end_far {U1 U0 kind : Int} {x y k m z : Nat} (HE : U1 + ((if kind = 2 ∧ k = 0 then x else 0 : Nat) : Int) = U0 + (6 + x + y) + ((if kind = 2 ∧ k = 0 ∧ 0 < m then z else 0 : Nat) : Int)) (h : (kind == 2) = false ∨ ¬ k = 0) : (U1 == U0 + (6 + (x : Int) + (y : Int))) = true := by
  have hn : ¬ (kind = 2 ∧ k = 0) := fun ⟨h2, h0⟩ => by
    rcases h with h | h
    · simp [h2] at h
    · exact h h0
  rw [if_neg hn, if_neg (fun ⟨h2, h0, _⟩ => hn ⟨h2, h0⟩)] at HE
  simp only [beq_iff_eq]
  omega

theorem end_first {U1 U0 kind : Int} {x y k m z : Nat} (HE : U1 + ((if kind = 2 ∧ k = 0 then x else 0 : Nat) : Int) = U0 + (6 + x + y) + ((if kind = 2 ∧ k = 0 ∧ 0 < m then z else 0 : Nat) : Int)) (h : (kind == 2) = true) (h0 : k = 0) (hm : 0 < m) : (U1 == U0 + (6 + (x : Int) + (y : Int) - (x : Int) + (z : Int))) = true := by
  have h2 : kind = 2 := by simpa using h
  rw [if_pos ⟨h2, h0⟩, if_pos ⟨h2, h0, hm⟩] at HE
  simp only [beq_iff_eq]
  omega

theorem end_only {U1 U0 kind : Int} {x y k m z : Nat} (HE : U1 + ((if kind = 2 ∧ k = 0 then x else 0 : Nat) : Int) = U0 + (6 + x + y) + ((if kind = 2 ∧ k = 0 ∧ 0 < m then z else 0 : Nat) : Int)) (h : (kind == 2) = true) (h0 : k = 0) (hm : ¬ 0 < m) : (U1 == U0 + (6 + (x : Int) + (y : Int) - (x : Int))) = true := by
  have h2 : kind = 2 := by simpa using h
  rw [if_pos ⟨h2, h0⟩, if_neg (fun h => hm h.2.2)] at HE
  simp only [beq_iff_eq]
  omega

theorem alone_branch {V kind : Int} {x y : Nat} (HV : V = 10 + y + ((if kind = 2 then 0 else x : Nat) : Int)) (h : (kind == 2) = true) : (V == 10 + (y : Int)) = true := by
  have h2 : kind = 2 := by simpa using h
  rw [if_pos h2] at HV
  simp only [beq_iff_eq]
  omega

theorem alone_leaf {V kind : Int} {x y : Nat} (HV : V = 10 + y + ((if kind = 2 then 0 else x : Nat) : Int)) (h : (kind == 2) = false) : (V == 10 + (y : Int) + (x : Int)) = true := by
  have h2 : ¬ kind = 2 := by simpa using h
  rw [if_neg h2] at HV
  simp only [beq_iff_eq]
  omega

end Go.Proofs.Qxb6634886a
