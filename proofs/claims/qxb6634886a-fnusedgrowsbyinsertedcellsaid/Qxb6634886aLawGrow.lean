/-
  Seat b6634886a: the walk of FnUsedGrowsByInsertedCell (4).
-/
import Derived.Test.Qxb6634886aGrow
namespace Go.Proofs.Qxb6634886a
open Go.RowKit

theorem sums_ofG {n kn pn : Nat} {K L : Nat → Nat} (h : ((kn : Int) + (pn : Int)) + 56 * n + total K L n ≤ 1048576) :
    n ≤ 20000 ∧ kn ≤ 1048576 ∧ pn ≤ 1048576 ∧ total K L n + (kn + pn) ≤ 1048576 ∧ (∀ i, i < n → K i ≤ 1048576) ∧ (∀ i, i < n → L i ≤ 1048576) := by
  refine ⟨by omega, by omega, by omega, by omega, fun i hi => ?_, fun i hi => ?_⟩
  · have := total_lt K L hi; omega
  · have := total_lt K L hi; omega

theorem grow_step {w wr w6 : World} {o : Obj} (h1 : Below w.heap.size w wr) (h3 : (wr.alloc o).grownBy w6 (some w.heap.size)) : Below w.heap.size w w6 := by
  have h1s := h1.size
  exact (h1.alloc (by omega) o).grown h3 (by simp; omega) (fun k hk => by simp at hk; omega)

set_option maxRecDepth 100000 in
set_option maxHeartbeats 2000000 in
theorem lawGrow_in (kind : Int) (c : Nat) (a : Option Addr) (n cap : Nat) (K L : Nat → Nat) (ka : Option Addr) (kn kc : Nat) (pa : Option Addr) (pn pc : Nat) (ov : Bool) (w : World) (hn : n ≤ maxLen) (hk1 : kn ≤ 1048576) (hp1 : pn ≤ 1048576) (hcn : c ≤ n)
    (h : CellsInO w a n K L) (hk : BytesAt w ka kn) (hp : BytesAt w pa pn) :
    Calls Try.prog 4 #[.int .u8 kind, .slice a n cap, .int .i64 (c : Int), .slice ka kn kc, .slice pa pn pc, .bool ov] w fun e w' => e = .returned (.bool true) ∧ Below w.heap.size w w' := by
  have HI : Hid (CellsInO w a n K L) := h
  have HN : Hid (n ≤ maxLen) := hn
  have HKB : Hid (BytesAt w ka kn) := hk
  have HPB : Hid (BytesAt w pa pn) := hp
  unfold maxLen at hn
  clear h hk hp
  have hcn' : (c : Int) ≤ (n : Int) := by omega
  obtain ⟨i0, hi, hz0, hz1, hz2⟩ := info_parts Try.info32
  go_enter Try.func4, Try.ntmps4
  go_wp2_with fail
  refine (bytes11_any kind c ka kn kc pa pn pc ov a n cap K L _ HI.out).mono ?_
  rintro e w' ⟨⟨r, rfl⟩, rfl⟩
  cases r with
  | false =>
    go_wp2_with fail
    go_ret
    exact ⟨rfl, Below.refl _ _⟩
  | true =>
    go_wp2_with fail
    refine (fits_any (kn + pn) a n cap K L _ HN.out HI.out).mono ?_
    rintro e w1 ⟨⟨r, rfl, hr⟩, hb1⟩
    have HB1 : Hid (Below w'.heap.size w' w1) := hb1
    clear hb1
    cases r with
    | false =>
      clear hr
      go_wp2_with fail
      go_ret
      exact ⟨rfl, HB1.out⟩
    | true =>
      obtain ⟨hn2, _, _, htot, hK, hL⟩ := sums_ofG (hr rfl).2
      have HK : Hid (∀ i, i < n → K i ≤ 1048576) := hK
      have HL : Hid (∀ i, i < n → L i ≤ 1048576) := hL
      have HT : Hid (total K L n + (kn + pn) ≤ 1048576) := htot
      clear hr hK hL htot hn
      go_wp2_with fail
      refine (cloneC_any a n cap K L _ (by omega) HK.out HL.out (HI.out.later HB1.out)).mono ?_
      rintro e w2 ⟨⟨a2, c2, rfl, hc2⟩, hb2⟩
      have HC2 : Hid (CellsO w2 a2 n K L) := hc2
      have HB2 : Hid (Below w'.heap.size w' w2) := HB1.out.trans (hb2.mono HB1.out.size)
      clear hc2 hb2 HB1
      go_wp2_with fail
      refine (cloneB ka kn kc _ (HKB.out.later HB2.out) hk1).mono ?_
      rintro e w3 ⟨⟨ka3, kc3, rfl⟩, hb3⟩
      have HC3 : Hid (CellsO w3 a2 n K L) := HC2.out.later hb3
      have HB3 : Hid (Below w'.heap.size w' w3) := HB2.out.trans (hb3.mono HB2.out.size)
      clear hb3 HB2 HC2
      go_wp2_with fail
      refine (cloneB pa pn pc _ (HPB.out.later HB3.out) hp1).mono ?_
      rintro e w4 ⟨⟨pa4, pc4, rfl⟩, hb4⟩
      have HC4 : Hid (CellsO w4 a2 n K L) := HC3.out.later hb4
      have HB4 : Hid (Below w'.heap.size w' w4) := HB3.out.trans (hb4.mono HB3.out.size)
      clear hb4 HB3 HC3
      go_wp2_with (first | (at_make; refine wpList_make_own w4 rfl _ _ 22 rfl w4.heap.size 32 i0 _ 3 Try.underlying22 hi hz0 hz1 .i64 .i64 _ (n + 1) rfl rfl (by omega) (by rw [hz2]; omega) (by unfold maxLen; omega) (Nat.le_refl _) ?_; intro w5 hown hgrow))
      have hb5 : Below w4.heap.size w4 w5 := (Below.refl _ _).grown hgrow (Nat.le_refl _) (by simp)
      clear hgrow
      go_loopw [13, 14] (fun v i wr => ∃ (k : Nat) (xs : List Value), k ≤ c ∧ i = .int .i64 k ∧ v = .slice (some ⟨w4.heap.size, 0, none⟩) k (n + 1) ∧ wr.ownsRow w4.heap.size 32 3 (.slice (some ⟨w4.heap.size, 0, none⟩) k (n + 1)) k xs ∧ Built K L k xs ∧ Below w4.heap.size w4 wr)
        (fun _ i _ => c - (intOf i).toNat)
      case atStart => exact ⟨0, [], Nat.zero_le _, rfl, rfl, hown, Built.nil _ _, hb5⟩
      case round =>
        obtain ⟨k, xs, hk, rfl, rfl, hownr, hbu, hbr⟩ := hrel
        clear hown hb5
        have HB : Hid (Below w4.heap.size w4 wr) := hbr
        have HO : Hid (wr.ownsRow w4.heap.size 32 3 (.slice (some ⟨w4.heap.size, 0, none⟩) k (n + 1)) k xs) := hownr
        have HU : Hid (Built K L k xs) := hbu
        have HZ : Hid (w4.heap.size < wr.heap.size) := (hownr.lt _ rfl).2
        clear hownr hbu
        by_cases hlt : k < c
        · obtain ⟨b, o, ha, hc⟩ := HC4.out.later hbr (by omega)
          subst ha
          obtain ⟨ka', kc', pa', pc', ov', g0, g1, g2⟩ := hc k (by omega)
          have hi1 : (k : Int) < (n : Int) := by omega
          clear hc hbr
          go_wp2_with (first | (at_builtin; refine wpList_append_fits _ rfl (.tmp 72) (.tmp 77) 22 rfl w4.heap.size 32 i0 3 Try.underlying22 hi hz1 w4.heap.size k (n + 1) xs rfl (HO.out.alloc _) ⟨wr.heap.size, 0, none⟩ 1 1 [.slice ka' (K k) kc', .slice pa' (L k) pc', .bool ov'] rfl rfl (World.news_of_block (cs := #[.slice ka' (K k) kc', .slice pa' (L k) pc', .bool ov']) (t := 32) (fr := (0, 0)) (heap_alloc_new wr _)) (by simp [Value.oneCell']) (by omega) ?_; intro w6 hown6 hgrow6))
          have HW : Hid (Below w4.heap.size w4 w6) := grow_step HB.out hgrow6
          have HO6 : Hid (w6.ownsRow w4.heap.size 32 3 (.slice (some ⟨w4.heap.size, 0, none⟩) (k + 1) (n + 1)) (k + 1) (xs ++ [.slice ka' (K k) kc', .slice pa' (L k) pc', .bool ov'])) := hown6
          clear hgrow6 hown6 g0 g1 g2
          go_roundw
          case rel => exact ⟨k + 1, _, by omega, by go_num, rfl, HO6.out, HU.out.push ka' kc' pa' pc' ov', HW.out⟩
          case measure => simp [intOf]; omega
        · obtain rfl : k = c := by omega
          clear hbr
          go_wp2_with (first | (at_builtin; refine wpList_append_fits _ rfl (.tmp 79) (.tmp 84) 22 rfl w4.heap.size 32 i0 3 Try.underlying22 hi hz1 w4.heap.size k (n + 1) xs rfl (HO.out.alloc _) ⟨wr.heap.size, 0, none⟩ 1 1 [.slice ka3 kn kc3, .slice pa4 pn pc4, .bool ov] rfl rfl (World.news_of_block (cs := #[.slice ka3 kn kc3, .slice pa4 pn pc4, .bool ov]) (t := 32) (fr := (0, 0)) (heap_alloc_new wr _)) (by simp [Value.oneCell']) (by omega) ?_; intro w6 hown6 hgrow6))
          have HW : Hid (Below w4.heap.size w4 w6) := grow_step HB.out hgrow6
          have HO6 : Hid (w6.ownsRow w4.heap.size 32 3 (.slice (some ⟨w4.heap.size, 0, none⟩) (k + 1) (n + 1)) (k + 1) (xs ++ [.slice ka3 kn kc3, .slice pa4 pn pc4, .bool ov])) := hown6
          have HU6 : Hid (Built (insAt K k kn) (insAt L k pn) (k + 1) (xs ++ [.slice ka3 kn kc3, .slice pa4 pn pc4, .bool ov])) := HU.out.mid ka3 kn kc3 pa4 pn pc4 ov
          clear hgrow6 hown6 HB HO HU HZ hk hlt
          obtain ⟨K', hK'⟩ : ∃ K', K' = insAt K k kn := ⟨_, rfl⟩
          obtain ⟨L', hL'⟩ : ∃ L', L' = insAt L k pn := ⟨_, rfl⟩
          have HK' : Hid (K' = insAt K k kn) := hK'
          have HL' : Hid (L' = insAt L k pn) := hL'
          have HV6 : Hid (Built K' L' (k + 1) (xs ++ [.slice ka3 kn kc3, .slice pa4 pn pc4, .bool ov])) := by rw [HK'.out, HL'.out]; exact HU6.out
          clear hK' hL' HU6
          go_loopw [13, 15] (fun v i wx => ∃ (m : Nat) (ys : List Value), k ≤ m ∧ m ≤ n ∧ i = .int .i64 m ∧ v = .slice (some ⟨w4.heap.size, 0, none⟩) (m + 1) (n + 1) ∧ wx.ownsRow w4.heap.size 32 3 (.slice (some ⟨w4.heap.size, 0, none⟩) (m + 1) (n + 1)) (m + 1) ys ∧ Built K' L' (m + 1) ys ∧ Below w4.heap.size w4 wx)
            (fun _ i _ => n - (intOf i).toNat)
          case atStart => exact ⟨k, _, Nat.le_refl _, hcn, rfl, rfl, HO6.out, HV6.out, HW.out⟩
          case round =>
            clear HO6 HV6 HW
            obtain ⟨m, ys, hkm, hmn, rfl, rfl, hownr, hbu, hbr⟩ := hrel
            have HB : Hid (Below w4.heap.size w4 wr) := hbr
            have HO : Hid (wr.ownsRow w4.heap.size 32 3 (.slice (some ⟨w4.heap.size, 0, none⟩) (m + 1) (n + 1)) (m + 1) ys) := hownr
            have HU : Hid (Built K' L' (m + 1) ys) := hbu
            clear hownr hbu
            by_cases hlt : m < n
            · obtain ⟨b, o, ha, hc⟩ := HC4.out.later hbr (by omega)
              subst ha
              obtain ⟨ka', kc', pa', pc', ov', g0, g1, g2⟩ := hc m hlt
              have hi1 : (m : Int) < (n : Int) := by omega
              have HU' : Hid (Built K' L' (m + 1 + 1) (ys ++ [.slice ka' (K m) kc', .slice pa' (L m) pc', .bool ov'])) := by
                have := HU.out
                rw [HK'.out, HL'.out] at this ⊢
                exact this.hi hkm ka' kc' pa' pc' ov'
              clear hc hbr
              go_wp2_with (first | (at_builtin; refine wpList_append_fits _ rfl (.tmp 93) (.tmp 98) 22 rfl w4.heap.size 32 i0 3 Try.underlying22 hi hz1 w4.heap.size (m + 1) (n + 1) ys rfl (HO.out.alloc _) ⟨wr.heap.size, 0, none⟩ 1 1 [.slice ka' (K m) kc', .slice pa' (L m) pc', .bool ov'] rfl rfl (World.news_of_block (cs := #[.slice ka' (K m) kc', .slice pa' (L m) pc', .bool ov']) (t := 32) (fr := (0, 0)) (heap_alloc_new wr _)) (by simp [Value.oneCell']) (by omega) ?_; intro w7 hown7 hgrow7))
              have HW : Hid (Below w4.heap.size w4 w7) := grow_step HB.out hgrow7
              have HO7 : Hid (w7.ownsRow w4.heap.size 32 3 (.slice (some ⟨w4.heap.size, 0, none⟩) (m + 1 + 1) (n + 1)) (m + 1 + 1) (ys ++ [.slice ka' (K m) kc', .slice pa' (L m) pc', .bool ov'])) := hown7
              clear hgrow7 hown7 g0 g1 g2
              go_roundw
              case rel => exact ⟨m + 1, _, by omega, by omega, by go_num, rfl, HO7.out, HU'.out, HW.out⟩
              case measure => simp [intOf]; omega
            · obtain rfl : m = n := by omega
              have HC8 : Hid (CellsO wr a2 m K L) := HC4.out.later hbr
              have HG8 : Hid (CellsAt wr w4.heap.size 0 (m + 1) K' L') := HU.out.cells HO.out
              have HB8 : Hid (Below w'.heap.size w' wr) := HB4.out.trans (hbr.mono HB4.out.size)
              clear hbr HB HO HU HC4 HB4
              have htm := HT.out
              have hti : Hid (total K' L' (m + 1) = total K L m + (kn + pn)) := by rw [HK'.out, HL'.out]; exact total_ins K L hcn kn pn
              have hU0 := usedOf_bd kind (n := m) (K := K) (L := L) (by omega)
              have hU1 := usedOf_bd kind (n := m + 1) (K := K') (L := L') (by have := hti.out; omega)
              have HG1 : Hid (CellsAt wr w4.heap.size (k * 3) 1 (fun _ => kn) (fun _ => pn)) := by
                have := HG8.out
                rw [HK'.out, HL'.out] at this
                exact this.one hcn
              clear htm
              go_wp2_with fail
              refine (build_any false a2 m c2 K L _ (by omega) HC8.out).mono ?_
              rintro e w9 ⟨rfl, hc9, hb9⟩
              have HD9 : Hid (CellsAt w9 wr.heap.size 0 m K L) := hc9
              have HC9 : Hid (CellsO w9 a2 m K L) := HC8.out.later hb9
              have HG9 : Hid (CellsAt w9 w4.heap.size 0 (m + 1) K' L') := HG8.out.later hb9
              have HO9 : Hid (CellsAt w9 w4.heap.size (k * 3) 1 (fun _ => kn) (fun _ => pn)) := HG1.out.later hb9
              have HB9 : Hid (Below w'.heap.size w' w9) := HB8.out.trans (hb9.mono HB8.out.size)
              clear hc9 hb9 HC8 HG8 HG1 HB8
              go_wp2_with fail
              refine (used_any kind _ m m K L _ (by have := HT.out; omega) HD9.out.o).mono ?_
              rintro e w10 ⟨rfl, hb⟩
              have HC10 : Hid (CellsO w10 a2 m K L) := HC9.out.later hb
              have HG10 : Hid (CellsAt w10 w4.heap.size 0 (m + 1) K' L') := HG9.out.later hb
              have HO10 : Hid (CellsAt w10 w4.heap.size (k * 3) 1 (fun _ => kn) (fun _ => pn)) := HO9.out.later hb
              have HB10 : Hid (Below w'.heap.size w' w10) := HB9.out.trans (hb.mono HB9.out.size)
              clear hb HD9 HC9 HG9 HO9 HB9
              go_wp2_with fail
              refine (build8 false w4.heap.size 0 (m + 1) (m + 1) K' L' _ (by omega) HG10.out).mono ?_
              rintro e w11 ⟨rfl, hc11, hb⟩
              have HD11 : Hid (CellsAt w11 w10.heap.size 0 (m + 1) K' L') := hc11
              have HC11 : Hid (CellsO w11 a2 m K L) := HC10.out.later hb
              have HG11 : Hid (CellsAt w11 w4.heap.size 0 (m + 1) K' L') := HG10.out.later hb
              have HO11 : Hid (CellsAt w11 w4.heap.size (k * 3) 1 (fun _ => kn) (fun _ => pn)) := HO10.out.later hb
              have HB11 : Hid (Below w'.heap.size w' w11) := HB10.out.trans (hb.mono HB10.out.size)
              clear hc11 hb HC10 HG10 HO10 HB10
              go_wp2_with fail
              refine (used_any kind _ (m + 1) (m + 1) K' L' _ (by have := hti.out; have := HT.out; omega) HD11.out.o).mono ?_
              rintro e w12 ⟨rfl, hb⟩
              have HC12 : Hid (CellsO w12 a2 m K L) := HC11.out.later hb
              have HG12 : Hid (CellsAt w12 w4.heap.size 0 (m + 1) K' L') := HG11.out.later hb
              have HO12 : Hid (CellsAt w12 w4.heap.size (k * 3) 1 (fun _ => kn) (fun _ => pn)) := HO11.out.later hb
              have HB12 : Hid (Below w'.heap.size w' w12) := HB11.out.trans (hb.mono HB11.out.size)
              clear hb HD11 HC11 HG11 HO11 HB11
              go_wp2_with fail
              refine (build8 true w4.heap.size 0 (m + 1) (m + 1) K' L' _ (by omega) HG12.out).mono ?_
              rintro e w13 ⟨rfl, hc13, hb⟩
              have HD13 : Hid (CellsAt w13 w12.heap.size 0 (m + 1) K' L') := hc13
              have HC13 : Hid (CellsO w13 a2 m K L) := HC12.out.later hb
              have HO13 : Hid (CellsAt w13 w4.heap.size (k * 3) 1 (fun _ => kn) (fun _ => pn)) := HO12.out.later hb
              have HB13 : Hid (Below w'.heap.size w' w13) := HB12.out.trans (hb.mono HB12.out.size)
              clear hc13 hb HC12 HG12 HO12 HB12
              go_wp2_with fail
              refine (used_any kind _ (m + 1) (m + 1) K' L' _ (by have := hti.out; have := HT.out; omega) HD13.out.o).mono ?_
              rintro e w14 ⟨rfl, hb⟩
              have HC14 : Hid (CellsO w14 a2 m K L) := HC13.out.later hb
              have HO14 : Hid (CellsAt w14 w4.heap.size (k * 3) 1 (fun _ => kn) (fun _ => pn)) := HO13.out.later hb
              have HB14 : Hid (Below w'.heap.size w' w14) := HB13.out.trans (hb.mono HB13.out.size)
              clear hb HD13 HC13 HO13 HB13
              have hk0' : (0 : Int) ≤ (k : Int) := by omega
              have hkm1 : (k : Int) + 1 ≤ (m : Int) + 1 := by omega
              go_wp2_with fail
              refine (build8 false w4.heap.size (k * 3) 1 (m + 1 - k) (fun _ => kn) (fun _ => pn) _ (by omega) HO14.out).mono ?_
              rintro e w15 ⟨rfl, hc15, hb⟩
              have HD15 : Hid (CellsAt w15 w14.heap.size 0 1 (fun _ => kn) (fun _ => pn)) := hc15
              have HC15 : Hid (CellsO w15 a2 m K L) := HC14.out.later hb
              have HB15 : Hid (Below w'.heap.size w' w15) := HB14.out.trans (hb.mono HB14.out.size)
              clear hc15 hb HC14 HO14 HB14
              have h9 := fun (W : World) (hW : CellsAt W w14.heap.size 0 1 (fun _ => kn) (fun _ => pn)) => used_any kind (some ⟨w14.heap.size, 0, none⟩) 1 1 (fun _ => kn) (fun _ => pn) W (by have := HT.out; simp [total, sumTo]; omega) hW.o
              have hV0 := used_one kind kn pn
              obtain ⟨V, hV⟩ : ∃ V, V = usedOf kind 1 (fun _ => kn) (fun _ => pn) := ⟨_, rfl⟩
              rw [← hV] at hV0 h9
              have H9 : Hid (∀ (W : World) (hW : CellsAt W w14.heap.size 0 1 (fun _ => kn) (fun _ => pn)), Calls Try.prog 9 #[.int .u8 kind, .slice (some ⟨w14.heap.size, 0, none⟩) 1 1] W fun e w' => e = .returned (.int .i64 V) ∧ Below W.heap.size W w') := h9
              have HV : Hid (V = 10 + pn + ((if kind = 2 then 0 else kn : Nat) : Int)) := hV0
              clear hV hV0 h9
              go_wp2_with fail
              refine (H9.out _ HD15.out).mono ?_
              rintro e w16 ⟨rfl, hb⟩
              have HC16 : Hid (CellsO w16 a2 m K L) := HC15.out.later hb
              have HB16 : Hid (Below w'.heap.size w' w16) := HB15.out.trans (hb.mono HB15.out.size)
              clear hb HD15 HC15 HB15 H9
              have HE : Hid (usedOf kind (m + 1) K' L' + ((if kind = 2 ∧ k = 0 then kn else 0 : Nat) : Int) = usedOf kind m K L + (6 + kn + pn) + ((if kind = 2 ∧ k = 0 ∧ 0 < m then K 0 else 0 : Nat) : Int)) := by rw [HK'.out, HL'.out]; exact used_ins kind K L hcn kn pn
              obtain ⟨kd, hkd⟩ : ∃ kd, (kind == 2) = kd := ⟨_, rfl⟩
              have HKD : Hid ((kind == 2) = kd) := hkd
              cases kd with
              | true =>
                have hkn : (kind != 2) = false := by simp only [bne, HKD.out]; rfl
                have hV1 := alone_branch HV.out HKD.out
                by_cases hk0 : k = 0
                · have hk0b : ((k : Int) == 0) = true := by simp; omega
                  have HK0 : Hid (k = 0) := hk0
                  clear hk0
                  by_cases hm0 : 0 < m
                  · obtain ⟨b, o, ha, hc⟩ := HC16.out hm0
                    subst ha
                    obtain ⟨ka', kc', pa', pc', ov', g0, g1, g2⟩ := hc 0 hm0
                    simp only [Nat.zero_mul, Nat.add_zero] at g0
                    have hm0' : (0 : Int) < (m : Int) := by omega
                    have hK0 := HK.out 0 hm0
                    have hE1 := end_first HE.out HKD.out HK0.out hm0
                    clear hc g1 g2
                    go_wp2_with fail
                    go_ret
                    exact ⟨rfl, HB16.out⟩
                  · have hm0' : ¬ (0 : Int) < (m : Int) := by omega
                    have hE1 := end_only HE.out HKD.out HK0.out hm0
                    go_wp2_with fail
                    go_ret
                    exact ⟨rfl, HB16.out⟩
                · have hk0b : ((k : Int) == 0) = false := by simp; omega
                  have hE1 := end_far HE.out (.inr hk0)
                  go_wp2_with fail
                  go_ret
                  exact ⟨rfl, HB16.out⟩
              | false =>
                have hkn : (kind != 2) = true := by simp only [bne, HKD.out]; rfl
                have hV1 := alone_leaf HV.out HKD.out
                have hE1 := end_far HE.out (.inl HKD.out)
                go_wp2_with fail
                go_ret
                exact ⟨rfl, HB16.out⟩

set_option maxRecDepth 100000 in
set_option maxHeartbeats 1000000 in
theorem lawGrow_big (kind at_ : Int) (a : Option Addr) (n cap : Nat) (K L : Nat → Nat) (ka : Option Addr) (kn kc : Nat) (pa : Option Addr) (pn pc : Nat) (ov : Bool) (w : World) (hb : ¬ (kn ≤ 1048576 ∧ pn ≤ 1048576)) (h : CellsInO w a n K L) :
    Calls Try.prog 4 #[.int .u8 kind, .slice a n cap, .int .i64 at_, .slice ka kn kc, .slice pa pn pc, .bool ov] w fun e w' => e = .returned (.bool true) ∧ Below w.heap.size w w' := by
  have HI : Hid (CellsInO w a n K L) := h
  clear h
  go_enter Try.func4, Try.ntmps4
  go_wp2_with fail
  refine (bytes11_any kind at_ ka kn kc pa pn pc ov a n cap K L _ HI.out).mono ?_
  rintro e w' ⟨⟨r, rfl⟩, rfl⟩
  cases r with
  | false =>
    go_wp2_with fail
    go_ret
    exact ⟨rfl, Below.refl _ _⟩
  | true =>
    by_cases hk1 : kn ≤ 1048576
    · have hp1 : ¬ pn ≤ 1048576 := fun h => hb ⟨hk1, h⟩
      clear hb
      go_wp2_with fail
      all_goals
        go_ret
        exact ⟨rfl, Below.refl _ _⟩
    · clear hb
      go_wp2_with fail
      all_goals
        go_ret
        exact ⟨rfl, Below.refl _ _⟩

set_option maxRecDepth 100000 in
set_option maxHeartbeats 1000000 in
theorem lawGrow_out (kind at_ : Int) (a : Option Addr) (n cap : Nat) (K L : Nat → Nat) (ka : Option Addr) (kn kc : Nat) (pa : Option Addr) (pn pc : Nat) (ov : Bool) (w : World) (hn : n ≤ maxLen) (hk1 : kn ≤ 1048576) (hp1 : pn ≤ 1048576) (hc : ¬ (0 ≤ at_ ∧ at_ ≤ n)) (h : CellsInO w a n K L) :
    Calls Try.prog 4 #[.int .u8 kind, .slice a n cap, .int .i64 at_, .slice ka kn kc, .slice pa pn pc, .bool ov] w fun e w' => e = .returned (.bool true) ∧ Below w.heap.size w w' := by
  have HI : Hid (CellsInO w a n K L) := h
  have HN : Hid (n ≤ maxLen) := hn
  unfold maxLen at hn
  clear h
  go_enter Try.func4, Try.ntmps4
  go_wp2_with fail
  refine (bytes11_any kind at_ ka kn kc pa pn pc ov a n cap K L _ HI.out).mono ?_
  rintro e w' ⟨⟨r, rfl⟩, rfl⟩
  cases r with
  | false =>
    go_wp2_with fail
    go_ret
    exact ⟨rfl, Below.refl _ _⟩
  | true =>
    go_wp2_with fail
    refine (fits_any (kn + pn) a n cap K L _ HN.out HI.out).mono ?_
    rintro e w1 ⟨⟨r, rfl, hr⟩, hb1⟩
    have HB1 : Hid (Below w'.heap.size w' w1) := hb1
    clear hb1
    cases r with
    | false =>
      clear hr
      go_wp2_with fail
      go_ret
      exact ⟨rfl, HB1.out⟩
    | true =>
      obtain ⟨hn2, _⟩ := sums_ofG (hr rfl).2
      clear hr
      by_cases h0 : at_ < 0
      · clear hc
        go_wp2_with fail
        all_goals
          go_ret
          exact ⟨rfl, HB1.out⟩
      · have h1 : (n : Int) < at_ := by omega
        clear hc
        go_wp2_with fail
        all_goals
          go_ret
          exact ⟨rfl, HB1.out⟩

/-- FnUsedGrowsByInsertedCell returns true, whatever it is handed, and writes nothing that was there. -/
theorem lawGrow (kind at_ : Int) (a : Option Addr) (n cap : Nat) (K L : Nat → Nat) (ka : Option Addr) (kn kc : Nat) (pa : Option Addr) (pn pc : Nat) (ov : Bool) (w : World) (hn : n ≤ maxLen)
    (h : CellsInO w a n K L) (hk : BytesAt w ka kn) (hp : BytesAt w pa pn) :
    Calls Try.prog 4 #[.int .u8 kind, .slice a n cap, .int .i64 at_, .slice ka kn kc, .slice pa pn pc, .bool ov] w fun e w' => e = .returned (.bool true) ∧ Below w.heap.size w w' := by
  by_cases hb : kn ≤ 1048576 ∧ pn ≤ 1048576
  · by_cases hat : 0 ≤ at_ ∧ at_ ≤ n
    · obtain ⟨c, rfl⟩ : ∃ c : Nat, at_ = c := ⟨at_.toNat, by omega⟩
      exact lawGrow_in kind c a n cap K L ka kn kc pa pn pc ov w hn hb.1 hb.2 (by omega) h hk hp
    · exact lawGrow_out kind at_ a n cap K L ka kn kc pa pn pc ov w hn hb.1 hb.2 hat h
  · exact lawGrow_big kind at_ a n cap K L ka kn kc pa pn pc ov w hb h

end Go.Proofs.Qxb6634886a
