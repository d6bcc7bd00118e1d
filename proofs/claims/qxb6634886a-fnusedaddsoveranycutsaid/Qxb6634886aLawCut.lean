/-
  Seat b6634886a: the walk of FnUsedAddsOverAnyCut (3).
-/
import Derived.Test.Qxb6634886aParts
namespace Go.Proofs.Qxb6634886a
open Go.RowKit

theorem sums_of {n : Nat} {K L : Nat → Nat} {extra : Int} (h0 : 0 ≤ extra) (h : extra + 56 * n + total K L n ≤ 1048576) :
    n ≤ 20000 ∧ total K L n ≤ 1048576 ∧ (∀ i, i < n → K i ≤ 1048576) ∧ (∀ i, i < n → L i ≤ 1048576) := by
  refine ⟨by omega, by omega, fun i hi => ?_, fun i hi => ?_⟩
  · have := total_lt K L hi; omega
  · have := total_lt K L hi; omega

set_option maxHeartbeats 1000000 in
theorem lawCut_in (kind : Int) (c : Nat) (b o n cap : Nat) (K L : Nat → Nat) (w : World) (hn : n ≤ maxLen) (hpos : 0 < n) (hcn : c ≤ n) (h : CellsIn w b o n K L) :
    Calls Try.prog 3 #[.int .u8 kind, .slice (some ⟨b, o, none⟩) n cap, .int .i64 (c : Int)] w fun e w' => e = .returned (.bool true) ∧ Below w.heap.size w w' := by
  have HI : Hid (CellsIn w b o n K L) := h
  have HN : Hid (n ≤ maxLen) := hn
  unfold maxLen at hn
  clear h
  have hcn' : (c : Int) ≤ (n : Int) := by omega
  go_enter Try.func3, Try.ntmps3
  go_wp2_with fail
  refine (bytes5 kind c b o n cap K L _ HI.out.at_).mono ?_
  rintro e w' ⟨⟨r, rfl⟩, rfl⟩
  cases r with
  | false =>
    go_wp2_with fail
    go_ret
    exact ⟨rfl, Below.refl _ _⟩
  | true =>
    go_wp2_with fail
    refine (fits 0 b o n cap K L _ HN.out HI.out.at_).mono ?_
    rintro e w1 ⟨⟨r, rfl, hr⟩, hb1⟩
    cases r with
    | false =>
      clear hr
      have HB1 : Hid (Below w'.heap.size w' w1) := hb1
      clear hb1
      go_wp2_with fail
      go_ret
      exact ⟨rfl, HB1.out⟩
    | true =>
      obtain ⟨hn2, htot, hK, hL⟩ := sums_of (by omega) (hr rfl).2
      have HB1 : Hid (Below w'.heap.size w' w1) := hb1
      have HK : Hid (∀ i, i < n → K i ≤ 1048576) := hK
      have HL : Hid (∀ i, i < n → L i ≤ 1048576) := hL
      have HT : Hid (total K L n ≤ 1048576) := htot
      clear hb1 hr hK hL htot hn
      go_wp2_with fail
      refine (cloneC_some b o n cap K L _ (by omega) HK.out HL.out (HI.out.later HB1.out)).mono ?_
      rintro e w2 ⟨rfl, hc2, hb2⟩
      have HC2 : Hid (CellsAt w2 w1.heap.size 0 n K L) := hc2
      have HB2 : Hid (Below w'.heap.size w' w2) := HB1.out.trans (hb2.mono HB1.out.size)
      clear hc2 hb2
      go_wp2_with fail
      refine (build8 false w1.heap.size 0 n n K L _ (by omega) HC2.out).mono ?_
      rintro e w3 ⟨rfl, hc3, hb3⟩
      have HC3 : Hid (CellsAt w3 w2.heap.size 0 n K L) := hc3
      have HC2' : Hid (CellsAt w3 w1.heap.size 0 n K L) := HC2.out.later hb3
      have HB3 : Hid (Below w'.heap.size w' w3) := HB2.out.trans (hb3.mono HB2.out.size)
      clear hc3 hb3 HC2 HB2 HB1
      go_wp2_with fail
      refine (used_any kind _ n n K L _ (by have := HT.out; omega) HC3.out.o).mono ?_
      rintro e w4 ⟨rfl, hb4⟩
      have HC4 : Hid (CellsAt w4 w2.heap.size 0 n K L) := HC3.out.later hb4
      have HD4 : Hid (CellsAt w4 w1.heap.size 0 n K L) := HC2'.out.later hb4
      have HB4 : Hid (Below w'.heap.size w' w4) := HB3.out.trans (hb4.mono HB3.out.size)
      clear hb4 HC3 HC2' HB3
      go_wp2_with fail
      refine (used_any kind _ c n K L _ (by have := HT.out; have := total_mono K L hcn; omega) (HC4.out.take hcn).o).mono ?_
      rintro e w5 ⟨rfl, hb5⟩
      have HC5 : Hid (CellsAt w5 w2.heap.size 0 n K L) := HC4.out.later hb5
      have HD5 : Hid (CellsAt w5 w1.heap.size 0 n K L) := HD4.out.later hb5
      have HB5 : Hid (Below w'.heap.size w' w5) := HB4.out.trans (hb5.mono HB4.out.size)
      clear hb5 HC4 HD4 HB4
      have hA := usedOf_bd kind (n := c) (K := K) (L := L) (by have := HT.out; have := total_mono K L hcn; omega)
      have hB0 := usedOf_bd kind (n := n - c) (K := fun i => K (c + i)) (L := fun i => L (c + i)) (by have := HT.out; have := total_drop K L hcn; omega)
      have hE0 := used_cut kind hcn K L
      have h90 : ∀ (a : Option Addr) (W : World), (c < n → a = some ⟨w2.heap.size, c * 3, none⟩) → CellsAt W w2.heap.size 0 n K L →
          Calls Try.prog 9 #[.int .u8 kind, .slice a (n - c) (n - c)] W fun e w' => e = .returned (.int .i64 (usedOf kind (n - c) (fun i => K (c + i)) (fun i => L (c + i)))) ∧ Below W.heap.size W w' := fun a W ha hW =>
        used_any kind a (n - c) (n - c) _ _ W (by have := HT.out; have := total_drop K L hcn; omega) (fun h0 => ⟨w2.heap.size, c * 3, ha (by omega), by have := hW.drop hcn; rwa [Nat.zero_add] at this⟩)
      obtain ⟨B, hB1⟩ : ∃ B, B = usedOf kind (n - c) (fun i => K (c + i)) (fun i => L (c + i)) := ⟨_, rfl⟩
      rw [← hB1] at hB0 hE0 h90
      clear hB1
      have HE : Hid (usedOf kind n K L = usedOf kind c K L + B - 4 + ((if kind = 2 ∧ 0 < c ∧ c < n then K c else 0 : Nat) : Int)) := hE0
      have H9 : Hid (∀ (a : Option Addr) (W : World), (c < n → a = some ⟨w2.heap.size, c * 3, none⟩) → CellsAt W w2.heap.size 0 n K L →
          Calls Try.prog 9 #[.int .u8 kind, .slice a (n - c) (n - c)] W fun e w' => e = .returned (.int .i64 B) ∧ Below W.heap.size W w') := h90
      have hU := usedOf_bd kind (n := n) (K := K) (L := L) (by have := HT.out; omega)
      clear hE0 h90
      obtain ⟨kd, hkd⟩ : ∃ kd, (kind == 2) = kd := ⟨_, rfl⟩
      have HKD : Hid ((kind == 2) = kd) := hkd
      by_cases hlt : c < n
      · have hne : ¬ n = c := by omega
        have hlt' : (c : Int) < (n : Int) := by omega
        obtain ⟨ka, kc, pa, pc, ov, g0, g1, g2⟩ := HD5.out c hlt
        have hKc := HK.out c hlt
        rw [Nat.zero_add] at g0
        clear g1 g2
        go_wp2_with fail
        refine (H9.out _ _ (fun _ => rfl) HC5.out).mono ?_
        rintro e w6 ⟨rfl, hb6⟩
        have g6 := cell_later hb6 g0
        have HD6 : Hid (CellsAt w6 w1.heap.size 0 n K L) := HD5.out.later hb6
        have HB6 : Hid (Below w'.heap.size w' w6) := HB5.out.trans (hb6.mono HB5.out.size)
        clear hb6 HC5 HD5 HB5 g0
        go_wp2_with fail
        refine (layout kind w1.heap.size 0 n n K L _ (by have := HT.out; omega) HD6.out hpos).mono ?_
        rintro e w7 ⟨rfl, hb7⟩
        have g7 := cell_later hb7 g6
        have HB7 : Hid (Below w'.heap.size w' w7) := HB6.out.trans (hb7.mono HB6.out.size)
        clear hb7 HD6 HB6 g6
        go_wp2_with fail
        · have hk : kd = true := by assumption
          have h0 : 0 < c := by assumption
          go_ret
          exact ⟨ret_bool (cut_in HE.out (HKD.out.trans hk) h0 hlt), HB7.out⟩
        · have h0 : ¬ 0 < c := by assumption
          go_ret
          exact ⟨ret_bool (cut_out HE.out (.inr (.inl h0))), HB7.out⟩
        · have hk : ¬ kd = true := by assumption
          go_ret
          exact ⟨ret_bool (cut_out HE.out (.inl (HKD.out.trans (by simpa using hk)))), HB7.out⟩
      · obtain rfl : c = n := by omega
        go_wp2_with fail
        refine (used9_zero kind _ _ _).mono ?_
        rintro e w6 ⟨rfl, hb6⟩
        have HD6 : Hid (CellsAt w6 w1.heap.size 0 c K L) := HD5.out.later hb6
        have HB6 : Hid (Below w'.heap.size w' w6) := HB5.out.trans (hb6.mono HB5.out.size)
        clear hb6 HC5 HD5 HB5
        go_wp2_with fail
        refine (layout kind w1.heap.size 0 c c K L _ (by have := HT.out; omega) HD6.out hpos).mono ?_
        rintro e w7 ⟨rfl, hb7⟩
        have HB7 : Hid (Below w'.heap.size w' w7) := HB6.out.trans (hb7.mono HB6.out.size)
        clear hb7 HD6 HB6
        go_wp2_with fail
        all_goals
          go_ret
          exact ⟨rfl, HB7.out⟩

set_option maxHeartbeats 1000000 in
theorem lawCut_out (kind cut : Int) (b o n cap : Nat) (K L : Nat → Nat) (w : World) (hn : n ≤ maxLen) (hc : ¬ (0 ≤ cut ∧ cut ≤ n)) (h : CellsIn w b o n K L) :
    Calls Try.prog 3 #[.int .u8 kind, .slice (some ⟨b, o, none⟩) n cap, .int .i64 cut] w fun e w' => e = .returned (.bool true) ∧ Below w.heap.size w w' := by
  have HI : Hid (CellsIn w b o n K L) := h
  have HN : Hid (n ≤ maxLen) := hn
  unfold maxLen at hn
  clear h
  go_enter Try.func3, Try.ntmps3
  go_wp2_with fail
  refine (bytes5 kind cut b o n cap K L _ HI.out.at_).mono ?_
  rintro e w' ⟨⟨r, rfl⟩, rfl⟩
  cases r with
  | false =>
    go_wp2_with fail
    go_ret
    exact ⟨rfl, Below.refl _ _⟩
  | true =>
    go_wp2_with fail
    refine (fits 0 b o n cap K L _ HN.out HI.out.at_).mono ?_
    rintro e w1 ⟨⟨r, rfl, hr⟩, hb1⟩
    have HB1 : Hid (Below w'.heap.size w' w1) := hb1
    clear hb1
    cases r with
    | false =>
      clear hr
      go_wp2_with fail
      go_ret
      exact ⟨rfl, HB1.out⟩
    | true =>
      obtain ⟨hn2, _⟩ := sums_of (by omega) (hr rfl).2
      clear hr
      by_cases h0 : cut < 0
      · go_wp2_with fail
        all_goals
          go_ret
          exact ⟨rfl, HB1.out⟩
      · have h1 : (n : Int) < cut := by omega
        clear hc
        go_wp2_with fail
        all_goals
          go_ret
          exact ⟨rfl, HB1.out⟩

set_option maxHeartbeats 1000000 in
theorem lawCut_zero (kind cut : Int) (a : Option Addr) (cap : Nat) (w : World) :
    Calls Try.prog 3 #[.int .u8 kind, .slice a 0 cap, .int .i64 cut] w fun e w' => e = .returned (.bool true) ∧ Below w.heap.size w w' := by
  obtain ⟨kd, hkd⟩ : ∃ kd, (kind == 2) = kd := ⟨_, rfl⟩
  go_enter Try.func3, Try.ntmps3
  go_wp2_with fail
  refine (bytes5_zero kind cut a cap _).mono ?_
  rintro e w' ⟨⟨r, rfl⟩, rfl⟩
  cases r with
  | false =>
    go_wp2_with fail
    go_ret
    exact ⟨rfl, Below.refl _ _⟩
  | true =>
    go_wp2_with fail
    refine (fits_zero 0 a cap (fun _ => 0) (fun _ => 0) _).mono ?_
    rintro e w1 ⟨⟨r, rfl, hr⟩, hb1⟩
    have HB1 : Hid (Below w'.heap.size w' w1) := hb1
    clear hb1 hr
    cases r with
    | false =>
      go_wp2_with fail
      go_ret
      exact ⟨rfl, HB1.out⟩
    | true =>
      by_cases h0 : cut < 0
      · go_wp2_with fail
        all_goals
          go_ret
          exact ⟨rfl, HB1.out⟩
      · by_cases h1 : 0 < cut
        · go_wp2_with fail
          all_goals
            go_ret
            exact ⟨rfl, HB1.out⟩
        · obtain rfl : cut = 0 := by omega
          clear h0 h1
          go_wp2_with fail
          refine (cloneC_zero a cap _).mono ?_
          rintro e w2 ⟨⟨a2, c2, rfl⟩, hb2⟩
          have HB2 : Hid (Below w'.heap.size w' w2) := HB1.out.trans (hb2.mono HB1.out.size)
          clear hb2 HB1
          go_wp2_with fail
          refine (build8_zero false a2 c2 _).mono ?_
          rintro e w3 ⟨rfl, hb3⟩
          have HB3 : Hid (Below w'.heap.size w' w3) := HB2.out.trans (hb3.mono HB2.out.size)
          clear hb3 HB2
          go_wp2_with fail
          refine (used9_zero kind _ _ _).mono ?_
          rintro e w4 ⟨rfl, hb4⟩
          have HB4 : Hid (Below w'.heap.size w' w4) := HB3.out.trans (hb4.mono HB3.out.size)
          clear hb4 HB3
          go_wp2_with fail
          refine (used9_zero kind _ _ _).mono ?_
          rintro e w5 ⟨rfl, hb5⟩
          have HB5 : Hid (Below w'.heap.size w' w5) := HB4.out.trans (hb5.mono HB4.out.size)
          clear hb5 HB4
          go_wp2_with fail
          refine (used9_zero kind _ _ _).mono ?_
          rintro e w6 ⟨rfl, hb6⟩
          have HB6 : Hid (Below w'.heap.size w' w6) := HB5.out.trans (hb6.mono HB5.out.size)
          clear hb6 HB5
          have H10 : Hid (∀ W, Calls Try.prog 10 #[.int .u8 kind, .slice a2 0 c2] W fun e w' => e = .returned (.int .i64 4) ∧ Below W.heap.size W w') := fun W => by
            have := layout_zero kind a2 c2 (fun _ => 0) (fun _ => 0) W
            rwa [usedOf_zero] at this
          go_wp2_with fail
          refine (H10.out _).mono ?_
          rintro e w7 ⟨rfl, hb7⟩
          have HB7 : Hid (Below w'.heap.size w' w7) := HB6.out.trans (hb7.mono HB6.out.size)
          clear hb7 HB6
          go_wp2_with fail
          all_goals
            go_ret
            exact ⟨rfl, HB7.out⟩

/-- FnUsedAddsOverAnyCut returns true, whatever it is handed, and writes nothing that was there. -/
theorem lawCut (kind cut : Int) (a : Option Addr) (n cap : Nat) (K L : Nat → Nat) (w : World) (hn : n ≤ maxLen) (h : 0 < n → ∃ b o, a = some ⟨b, o, none⟩ ∧ CellsIn w b o n K L) :
    Calls Try.prog 3 #[.int .u8 kind, .slice a n cap, .int .i64 cut] w fun e w' => e = .returned (.bool true) ∧ Below w.heap.size w w' := by
  rcases Nat.eq_zero_or_pos n with rfl | hpos
  · exact lawCut_zero kind cut a cap w
  · obtain ⟨b, o, rfl, hc⟩ := h hpos
    by_cases hcut : 0 ≤ cut ∧ cut ≤ n
    · obtain ⟨c, rfl⟩ : ∃ c : Nat, cut = c := ⟨cut.toNat, by omega⟩
      exact lawCut_in kind c b o n cap K L w hn hpos (by omega) hc
    · exact lawCut_out kind cut b o n cap K L w hn hcut hc

end Go.Proofs.Qxb6634886a
