/-
  Seat b6634886a: the arguments opened: a slice of bytes, a slice of cells.
-/
import Derived.Test.Qxb6634886aBase
import Derived.ProofKit
import Derived.Deep.Slices
import Derived.Deep.Strs
namespace Go.Proofs.Qxb6634886a
open Go.ChangeShapes Go.WideShapes Go.ChangeAt Go.RowKit Go.Deep

theorem Try.cells32 : Try.prog.cellsOf 32 = 3 := by kernel_rfl
theorem Try.cells30 : Try.prog.cellsOf 30 = 1 := by kernel_rfl
theorem Try.cells5 : Try.prog.cellsOf 5 = 1 := by kernel_rfl
theorem Try.cells4 : Try.prog.cellsOf 4 = 1 := by kernel_rfl

section
variable {H : Type} {enc : TypeId × Value → H} {W : World}

/-- A slice of bytes, read whole. -/
theorem bytes_in {fuel : Nat} {cs : List Value} {x : DataW H × List MemPlace} (h : DataW.trod enc Try.prog W 0 (fun _ => true) true fuel 30 cs = some x) :
    ∃ a n cap, cs = [.slice a n cap] ∧ n ≤ maxLen ∧ BytesAt W a n := by
  rcases open_ints Try.underlying30 Try.underlying5 Try.cells5 h with ⟨hcs, _⟩ | ⟨a, l, c, zs, hcs, _, hl, hm, hz, _, hcell, _⟩
  · exact ⟨none, 0, 0, hcs, Nat.zero_le _, fun _ => rfl, fun h => absurd h (Nat.lt_irrefl 0)⟩
  · refine ⟨some a, l, c, hcs, Nat.le_trans hl hm, fun h => by simp at h, fun hpos => ?_⟩
    simp only [if_true] at hz
    obtain ⟨b, o, spot⟩ := a
    have hspot : spot = none := by simpa [Addr.add] using World.cell?_spot (hcell 0 (by omega))
    subst hspot
    refine ⟨b, o, rfl, fun j hj => ⟨zs.getD j 0, ?_⟩⟩
    rw [← add_plain]
    exact hcell j (by omega)

/-- A slice of cells, read whole. -/
theorem cells_in {fuel : Nat} {a : Option Addr} {n cap : Nat} {x : DataW H × List MemPlace} (h : DataW.trod enc Try.prog W 0 (fun _ => true) true fuel 22 [.slice a n cap] = some x) :
    n ≤ maxLen ∧ ∃ K L : Nat → Nat, 0 < n → ∃ b o, a = some ⟨b, o, none⟩ ∧ CellsIn W b o n K L := by
  rcases open_slice Try.underlying22 h with ⟨hcs, _⟩ | ⟨ad, l, c, m, fl, D, Pl, hcs, _, hl, hm, hmm, _, hx⟩
  · simp only [List.cons.injEq, Value.slice.injEq, and_true] at hcs
    obtain ⟨rfl, rfl, rfl⟩ := hcs
    exact ⟨Nat.zero_le _, fun _ => 0, fun _ => 0, fun h => absurd h (Nat.lt_irrefl 0)⟩
  · simp only [List.cons.injEq, Value.slice.injEq, and_true] at hcs
    obtain ⟨rfl, rfl, rfl⟩ := hcs
    simp only [if_true] at hmm
    subst hmm
    refine ⟨Nat.le_trans hl hm, ?_⟩
    rw [Try.cells32] at hx
    have each : ∀ i, i < n → ∃ q : Nat × Nat, ∃ ka kc pa pc ov, W.cell? ((ad.add (i * 3)).add 0) = some (.slice ka q.1 kc) ∧ W.cell? ((ad.add (i * 3)).add 1) = some (.slice pa q.2 pc) ∧ W.cell? ((ad.add (i * 3)).add 2) = some (.bool ov) ∧ BytesAt W ka q.1 ∧ BytesAt W pa q.2 := by
      intro i hi
      obtain ⟨cs', h1, h2⟩ := hx i (by omega)
      obtain ⟨_, hlen, hc⟩ := World.cells?_some h1
      obtain ⟨y0, y1, y2, f, _, _, t0, t1, t2⟩ := trod_struct3 Try.underlying32 h2
      obtain ⟨c0, c1, c2, rfl⟩ : ∃ c0 c1 c2, cs' = [c0, c1, c2] := by
        match cs', hlen with
        | [c0, c1, c2], _ => exact ⟨c0, c1, c2, rfl⟩
      simp only [Try.cells30, Try.cells4] at t0 t1 t2
      obtain ⟨ka, kn, kc, e0, _, hb0⟩ := bytes_in t0
      obtain ⟨pa, pn, pc, e1, _, hb1⟩ := bytes_in t1
      obtain ⟨ov, e2, _⟩ := DataW.trod_bool Try.underlying4 t2
      simp at e0 e1 e2
      subst e0 e1 e2
      refine ⟨(kn, pn), ka, kc, pa, pc, ov, ?_, ?_, ?_, hb0, hb1⟩
      · rw [hc 0 (by omega)]; rfl
      · rw [hc 1 (by omega)]; rfl
      · rw [hc 2 (by omega)]; rfl
    obtain ⟨q, hq⟩ := choose_lt each
    refine ⟨fun i => (q i).1, fun i => (q i).2, fun hpos => ?_⟩
    obtain ⟨b, o, spot⟩ := ad
    have hspot : spot = none := by
      obtain ⟨_, _, _, _, _, g0, _⟩ := hq 0 hpos
      simpa [Addr.add] using World.cell?_spot g0
    subst hspot
    refine ⟨b, o, rfl, fun i hi => ?_⟩
    obtain ⟨ka, kc, pa, pc, ov, g0, g1, g2, g3, g4⟩ := hq i hi
    rw [add_plain, add_plain] at g0 g1 g2
    exact ⟨ka, kc, pa, pc, ov, g0, g1, g2, g3, g4⟩

end

end Go.Proofs.Qxb6634886a
