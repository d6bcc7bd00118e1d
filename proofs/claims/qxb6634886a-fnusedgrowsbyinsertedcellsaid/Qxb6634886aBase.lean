/-
  Seat b6634886a: what the walks are told of a slice of bytes and of a slice of cells; the sums; small laws on worlds. No walk here.
-/
import Derived.Test.Qxb6634886aRows
import Derived.WalkKit
import Derived.WalkSpells
import Derived.WalkLawsBesides
import Derived.Deep.QuietTactic
import Derived.BigQuiet
import Derived.Deep.RegionWith
import Derived.Deep.RegionHeld3
import Derived.Deep.AppendLies
namespace Go.Proofs.Qxb6634886a
open Go.RowKit

theorem Try.info5 : (Try.prog.info? 5).map (fun i => (i.zero, i.size, i.bytes)) = some (some (.int .u8 0), 1, 1) := by kernel_rfl
theorem Try.info32 : (Try.prog.info? 32).map (fun i => (i.zero, i.size, i.bytes)) = some (some (.agg #[.slice none 0 0, .slice none 0 0, .bool false]), 3, 56) := by kernel_rfl
theorem Try.info36 : (Try.prog.info? 36).map (fun i => (i.zero, i.size, i.bytes)) = some (some (.agg #[.slice none 0 0, .slice none 0 0, .bool false]), 3, 56) := by kernel_rfl

/-- A slice of bytes as it can be read: nil, or empty, or its bytes lie there. -/
def BytesAt (w : World) (a : Option Addr) (n : Nat) : Prop :=
  (a = none → n = 0) ∧ (0 < n → ∃ b o, a = some ⟨b, o, none⟩ ∧ ∀ j, j < n → ∃ x, w.cell? ⟨b, o + j, none⟩ = some (.int .u8 x))

theorem BytesAt.later {w w' : World} {a : Option Addr} {n : Nat} (h : BytesAt w a n) (hb : Below w.heap.size w w') : BytesAt w' a n := by
  refine ⟨h.1, fun hn => ?_⟩
  obtain ⟨b, o, ha, hc⟩ := h.2 hn
  exact ⟨b, o, ha, fun j hj => let ⟨x, hx⟩ := hc j hj; ⟨x, cell_later hb hx⟩⟩

/-- A slice of n cells as the walks read it: cell i holds a key of length K i, a payload of length L i, and a flag. -/
def CellsAt (w : World) (b o n : Nat) (K L : Nat → Nat) : Prop :=
  ∀ i, i < n → ∃ ka kc pa pc ov, w.cell? ⟨b, o + i * 3, none⟩ = some (.slice ka (K i) kc) ∧ w.cell? ⟨b, o + i * 3 + 1, none⟩ = some (.slice pa (L i) pc) ∧ w.cell? ⟨b, o + i * 3 + 2, none⟩ = some (.bool ov)

theorem CellsAt.later {w w' : World} {b o n : Nat} {K L : Nat → Nat} (h : CellsAt w b o n K L) (hb : Below w.heap.size w w') : CellsAt w' b o n K L := fun i hi => by
  obtain ⟨ka, kc, pa, pc, ov, h0, h1, h2⟩ := h i hi
  exact ⟨ka, kc, pa, pc, ov, cell_later hb h0, cell_later hb h1, cell_later hb h2⟩

/-- The call has returned a bool. -/
def IsBool (e : Ending) : Prop := ∃ r, e = .returned (.bool r)
theorem isBool (r : Bool) : IsBool (.returned (.bool r)) := ⟨r, rfl⟩

/-- The sum of f 0 .. f (m - 1). -/
def sumTo (f : Nat → Nat) : Nat → Nat
  | 0 => 0
  | m + 1 => sumTo f m + f m

theorem sumTo_succ (f : Nat → Nat) (m : Nat) : sumTo f (m + 1) = sumTo f m + f m := rfl

theorem sumTo_lt (f : Nat → Nat) {k n : Nat} (h : k < n) : sumTo f k + f k ≤ sumTo f n := by
  induction n with
  | zero => omega
  | succ n ih =>
    rw [sumTo_succ]
    rcases Nat.lt_succ_iff_lt_or_eq.1 h with h' | rfl
    · have := ih h'; omega
    · exact Nat.le_refl _

theorem sumTo_congr {f g : Nat → Nat} {n : Nat} (h : ∀ i, i < n → f i = g i) : sumTo f n = sumTo g n := by
  induction n with
  | zero => rfl
  | succ n ih => rw [sumTo_succ, sumTo_succ, ih fun i hi => h i (by omega), h n (by omega)]

theorem sumTo_add (f : Nat → Nat) (m n : Nat) : sumTo f (m + n) = sumTo f m + sumTo (fun i => f (m + i)) n := by
  induction n with
  | zero => rfl
  | succ n ih => rw [← Nat.add_assoc, sumTo_succ, sumTo_succ, ih]; omega

/-- The sum of the keys' and the payloads' lengths. -/
def total (K L : Nat → Nat) (n : Nat) : Nat := sumTo (fun i => K i + L i) n

theorem total_zero (K L : Nat → Nat) : total K L 0 = 0 := rfl
theorem total_succ (K L : Nat → Nat) (n : Nat) : total K L (n + 1) = total K L n + (K n + L n) := rfl
theorem total_lt (K L : Nat → Nat) {k n : Nat} (h : k < n) : total K L k + (K k + L k) ≤ total K L n := sumTo_lt _ h
theorem total_add (K L : Nat → Nat) (m n : Nat) : total K L (m + n) = total K L m + total (fun i => K (m + i)) (fun i => L (m + i)) n := sumTo_add _ m n
theorem total_congr {K L K' L' : Nat → Nat} {n : Nat} (h : ∀ i, i < n → K i = K' i) (h' : ∀ i, i < n → L i = L' i) : total K L n = total K' L' n := sumTo_congr fun i hi => by rw [h i hi, h' i hi]

/-- The key that a branch page does not store. -/
def lessKey (kind : Int) (n : Nat) (K : Nat → Nat) : Nat := if kind = 2 ∧ 0 < n then K 0 else 0

theorem lessKey_le (kind : Int) (n : Nat) (K L : Nat → Nat) : lessKey kind n K ≤ total K L n := by
  unfold lessKey
  split
  · next h => have := total_lt K L h.2; omega
  · omega

/-- The room that a node of n cells takes. -/
def usedOf (kind : Int) (n : Nat) (K L : Nat → Nat) : Int := 4 + 6 * n + total K L n - lessKey kind n K

/-! ### Rows of the call's own -/

theorem grown_of_below {w w' : World} (h : Below w.heap.size w w') : w.grownBy w' none := ⟨h.os, h.tape, h.output, h.size, fun k hk _ => h.block k hk⟩

theorem owns_later {w w' : World} {base : Nat} {e : TypeId} {size : Nat} {a : Addr} {n c m : Nat} {xs : List Value} (h : w.ownsRow base e size (.slice (some a) n c) m xs) (hb : Below w.heap.size w w') : w'.ownsRow base e size (.slice (some a) n c) m xs :=
  h.kept (grown_of_below hb) (Or.inr (by simp [Value.ownBlock]))

/-- 'append' within the capacity onto a row of the call's own, as one step of a region that draws its order. -/
theorem step_append_fits {P : Program} {ops : Array Oper} {o : Oper} {a : Act} {w : World} {K : Act → World → Prop} {Q : Exit → Act → World → Prop} {E : Prop}
    (hg : o.guard = none) (s x : Operand) (t : TypeId) (hop : o.op = Op.call { callee := Callee.builtin Builtin.append, args := #[s, x], argTypes := #[t, t] })
    (base : Nat) (e : TypeId) (i : TypeInfo) (size : Nat) (h1 : P.underlying t = some (.slice e)) (h2 : P.info? e = some i) (h4 : i.size = size)
    (g k cap : Nat) (xs : List Value) (hs : a.eval s = .slice (some ⟨g, 0, none⟩) k cap) (hown : w.ownsRow base e size (.slice (some ⟨g, 0, none⟩) k cap) k xs)
    (ad : Addr) (m c : Nat) (news : List Value) (hx : a.eval x = .slice (some ad) m c) (hn : news.length = m * size) (hc : ∀ j u, news[j]? = some u → w.cell? (ad.add j) = some u) (h1c : ∀ u ∈ news, u.oneCell' = true) (b1 : k + m ≤ cap)
    (hK : ∀ w', w'.ownsRow base e size (.slice (some ⟨g, 0, none⟩) (k + m) cap) (k + m) (xs ++ news) → w.grownBy w' (some g) → K (a.put o.dst (.slice (some ⟨g, 0, none⟩) (k + m) cap)) w') :
    if Region.wanted o (yielded ops a.tmps) = true then Oper.wp P o a w K Q else E := by
  have hw : Region.wanted o (yielded ops a.tmps) = true := by simp [Region.wanted, hg]
  rw [if_pos hw]
  obtain ⟨w', hrun, r1, r2⟩ := run_append_fits (P := P) w base t o.type e i size h1 h2 h4 g k cap xs hown ad m c news hn hc h1c b1
  unfold Oper.wp
  simp [execOp, hop, resolve, invoke, builtin, hs, hx, hrun, Result.andThen]
  exact hK w' r1 r2

theorem owns_three {w : World} {base : Nat} {e : TypeId} {n cap g : Nat} {xs : List Value} (h : w.ownsRow base e 3 (.slice (some ⟨g, 0, none⟩) n cap) n xs) {k : Nat} (hk : k < n) :
    ∃ y0 y1 y2, w.cell? ⟨g, k * 3, none⟩ = some y0 ∧ w.cell? ⟨g, k * 3 + 1, none⟩ = some y1 ∧ w.cell? ⟨g, k * 3 + 2, none⟩ = some y2 ∧
      w.frozen? ⟨g, k * 3, none⟩ = false ∧ w.frozen? ⟨g, k * 3 + 1, none⟩ = false ∧ w.frozen? ⟨g, k * 3 + 2, none⟩ = false := by
  have hl := h.1
  refine ⟨xs[k * 3]'(by omega), xs[k * 3 + 1]'(by omega), xs[k * 3 + 2]'(by omega), ?_, ?_, ?_, h.frozenAt _, h.frozenAt _, h.frozenAt _⟩
  · rw [h.cellAt _ (by omega)]; exact List.getElem?_eq_getElem _
  · rw [h.cellAt _ (by omega)]; exact List.getElem?_eq_getElem _
  · rw [h.cellAt _ (by omega)]; exact List.getElem?_eq_getElem _

theorem cell_far_set {w : World} {p q : Addr} {v u : Value} (h : w.cell? p = some v) (hne : p.block ≠ q.block) : (w.setCell q u).cell? p = some v :=
  (World.cell?_of_block (Below.heap_setCell w q u p.block hne)).trans h

theorem cell_far3 {w : World} {p : Addr} {g i j l : Nat} {v x y z : Value} (h : w.cell? p = some v) (hne : p.block ≠ g) : (((w.setCell ⟨g, i, none⟩ x).setCell ⟨g, j, none⟩ y).setCell ⟨g, l, none⟩ z).cell? p = some v :=
  cell_far_set (cell_far_set (cell_far_set h hne) hne) hne

/-- The list of cells of k Go cells, keys of lengths K, payloads of lengths L. -/
def Built (K L : Nat → Nat) (k : Nat) (xs : List Value) : Prop :=
  xs.length = k * 3 ∧ ∀ i, i < k → ∃ ka kc pa pc ov, xs[i * 3]? = some (.slice ka (K i) kc) ∧ xs[i * 3 + 1]? = some (.slice pa (L i) pc) ∧ xs[i * 3 + 2]? = some (.bool ov)

theorem Built.nil (K L : Nat → Nat) : Built K L 0 [] := ⟨rfl, fun i hi => absurd hi (Nat.not_lt_zero i)⟩

theorem Built.push {K L : Nat → Nat} {k : Nat} {xs : List Value} (h : Built K L k xs) (ka : Option Addr) (kc : Nat) (pa : Option Addr) (pc : Nat) (ov : Bool) :
    Built K L (k + 1) (xs ++ [.slice ka (K k) kc, .slice pa (L k) pc, .bool ov]) := by
  refine ⟨by simp [h.1]; omega, fun i hi => ?_⟩
  have hl := h.1
  rcases Nat.lt_succ_iff_lt_or_eq.1 hi with hlt | rfl
  · obtain ⟨ka', kc', pa', pc', ov', e0, e1, e2⟩ := h.2 i hlt
    refine ⟨ka', kc', pa', pc', ov', ?_, ?_, ?_⟩
    · rw [List.getElem?_append_left (by omega)]; exact e0
    · rw [List.getElem?_append_left (by omega)]; exact e1
    · rw [List.getElem?_append_left (by omega)]; exact e2
  · refine ⟨ka, kc, pa, pc, ov, ?_, ?_, ?_⟩
    · rw [List.getElem?_append_right (by omega), hl]; simp
    · rw [List.getElem?_append_right (by omega), hl, show i * 3 + 1 - i * 3 = 1 by omega]; simp
    · rw [List.getElem?_append_right (by omega), hl, show i * 3 + 2 - i * 3 = 2 by omega]; simp

theorem Built.cells {K L : Nat → Nat} {n g cap base : Nat} {e : TypeId} {xs : List Value} {w : World} (h : Built K L n xs) (hown : w.ownsRow base e 3 (.slice (some ⟨g, 0, none⟩) n cap) n xs) : CellsAt w g 0 n K L := fun i hi => by
  obtain ⟨ka, kc, pa, pc, ov, e0, e1, e2⟩ := h.2 i hi
  refine ⟨ka, kc, pa, pc, ov, ?_, ?_, ?_⟩
  · rw [Nat.zero_add, hown.cellAt _ (by omega)]; exact e0
  · rw [Nat.zero_add, hown.cellAt _ (by omega)]; exact e1
  · rw [Nat.zero_add, hown.cellAt _ (by omega)]; exact e2

/-- The first k of the Go cells that the list holds are laid. -/
def Part (K L : Nat → Nat) (k : Nat) (xs : List Value) : Prop :=
  ∀ i, i < k → ∃ ka kc pa pc ov, xs[i * 3]? = some (.slice ka (K i) kc) ∧ xs[i * 3 + 1]? = some (.slice pa (L i) pc) ∧ xs[i * 3 + 2]? = some (.bool ov)

theorem Part.zero (K L : Nat → Nat) (xs : List Value) : Part K L 0 xs := fun i hi => absurd hi (Nat.not_lt_zero i)

theorem Part.lay {K L : Nat → Nat} {k : Nat} {xs : List Value} (h : Part K L k xs) (hl : k * 3 + 2 < xs.length) (ka : Option Addr) (kc : Nat) (pa : Option Addr) (pc : Nat) (ov : Bool) :
    Part K L (k + 1) (((xs.set (k * 3) (.slice ka (K k) kc)).set (k * 3 + 1) (.slice pa (L k) pc)).set (k * 3 + 2) (.bool ov)) := fun i hi => by
  rcases Nat.lt_succ_iff_lt_or_eq.1 hi with hlt | rfl
  · obtain ⟨ka', kc', pa', pc', ov', e0, e1, e2⟩ := h i hlt
    refine ⟨ka', kc', pa', pc', ov', ?_, ?_, ?_⟩
    · rw [List.getElem?_set_ne (by omega), List.getElem?_set_ne (by omega), List.getElem?_set_ne (by omega)]; exact e0
    · rw [List.getElem?_set_ne (by omega), List.getElem?_set_ne (by omega), List.getElem?_set_ne (by omega)]; exact e1
    · rw [List.getElem?_set_ne (by omega), List.getElem?_set_ne (by omega), List.getElem?_set_ne (by omega)]; exact e2
  · refine ⟨ka, kc, pa, pc, ov, ?_, ?_, ?_⟩
    · rw [List.getElem?_set_ne (by omega), List.getElem?_set_ne (by omega), List.getElem?_set_self (by omega)]
    · rw [List.getElem?_set_ne (by omega), List.getElem?_set_self (by simp; omega)]
    · rw [List.getElem?_set_self (by simp; omega)]

theorem Part.cells {K L : Nat → Nat} {n g cap base : Nat} {e : TypeId} {xs : List Value} {w : World} (h : Part K L n xs) (hown : w.ownsRow base e 3 (.slice (some ⟨g, 0, none⟩) n cap) n xs) : CellsAt w g 0 n K L :=
  Built.cells ⟨hown.1, h⟩ hown

/-- A slice of cells that came in: the keys' and the payloads' bytes lie there too. -/
def CellsIn (w : World) (b o n : Nat) (K L : Nat → Nat) : Prop :=
  ∀ i, i < n → ∃ ka kc pa pc ov, w.cell? ⟨b, o + i * 3, none⟩ = some (.slice ka (K i) kc) ∧ w.cell? ⟨b, o + i * 3 + 1, none⟩ = some (.slice pa (L i) pc) ∧ w.cell? ⟨b, o + i * 3 + 2, none⟩ = some (.bool ov) ∧
    BytesAt w ka (K i) ∧ BytesAt w pa (L i)

theorem CellsIn.at_ {w : World} {b o n : Nat} {K L : Nat → Nat} (h : CellsIn w b o n K L) : CellsAt w b o n K L := fun i hi => by
  obtain ⟨ka, kc, pa, pc, ov, h0, h1, h2, _⟩ := h i hi
  exact ⟨ka, kc, pa, pc, ov, h0, h1, h2⟩

theorem CellsIn.later {w w' : World} {b o n : Nat} {K L : Nat → Nat} (h : CellsIn w b o n K L) (hb : Below w.heap.size w w') : CellsIn w' b o n K L := fun i hi => by
  obtain ⟨ka, kc, pa, pc, ov, h0, h1, h2, h3, h4⟩ := h i hi
  exact ⟨ka, kc, pa, pc, ov, cell_later hb h0, cell_later hb h1, cell_later hb h2, h3.later hb, h4.later hb⟩

end Go.Proofs.Qxb6634886a
