import Derived.Test.Qxb6616471aW9
namespace Go.Proofs.Qxb6616471a
open Go.RowKit

theorem keep2 {W w1 : World} {N : Nat} {v0 v1 : Value} (hb : Below W.heap.size W w1) (g0 : W.cell? ⟨N, 0, none⟩ = some v0) (g1 : W.cell? ⟨N, 1, none⟩ = some v1) :
    w1.cell? ⟨N, 0, none⟩ = some v0 ∧ w1.cell? ⟨N, 1, none⟩ = some v1 ∧ N < w1.heap.size :=
  ⟨cell_later hb g0, cell_later hb g1, Nat.lt_of_lt_of_le (World.block_lt_of_cell? _ _ g0) hb.size⟩

theorem step_below {w W w1 : World} (h : Below w.heap.size w W) (hb : Below W.heap.size W w1) : Below w.heap.size w w1 := h.trans (hb.mono h.size)

/-- The three boxes of the law: r, lo, hi. -/
def Env (w : World) (M : Nat) (v0 v1 vm : Value) (W : World) : Prop :=
  Below w.heap.size w W ∧ W.cell? ⟨w.heap.size, 0, none⟩ = some v0 ∧ W.cell? ⟨w.heap.size, 1, none⟩ = some v1 ∧ W.cell? ⟨M, 0, none⟩ = some v0 ∧ W.cell? ⟨M, 1, none⟩ = some vm ∧ W.cell? ⟨M + 1, 0, none⟩ = some vm ∧ W.cell? ⟨M + 1, 1, none⟩ = some v1

theorem Env.below {w W w1 : World} {M : Nat} {v0 v1 vm : Value} (h : Env w M v0 v1 vm W) (hb : Below W.heap.size W w1) : Env w M v0 v1 vm w1 :=
  ⟨step_below h.1 hb, cell_later hb h.2.1, cell_later hb h.2.2.1, cell_later hb h.2.2.2.1, cell_later hb h.2.2.2.2.1, cell_later hb h.2.2.2.2.2.1, cell_later hb h.2.2.2.2.2.2⟩

theorem Env.start {w W : World} {v0 v1 vm : Value} (hb : Below w.heap.size w W) (g0 : W.cell? ⟨w.heap.size, 0, none⟩ = some v0) (g1 : W.cell? ⟨w.heap.size, 1, none⟩ = some v1) :
    Env w W.heap.size v0 v1 vm ((W.alloc (.cells #[v0, vm] 37)).alloc (.cells #[vm, v1] 37)) := by
  have b1 : Below W.heap.size W ((W.alloc (.cells #[v0, vm] 37)).alloc (.cells #[vm, v1] 37)) := (below_alloc _ _).alloc (by simp) _
  exact ⟨step_below hb b1, cell_later b1 g0, cell_later b1 g1, by simp, by simp, by simp, by simp⟩

/-- A holder lies at H, whose ranges are L. -/
def Hold (H : Nat) (L : List (Option (List UInt8) × Option (List UInt8))) (W : World) : Prop := ∃ ao n c, W.cell? ⟨H, 2, none⟩ = some (.slice ao n c) ∧ RS W ao n L

theorem Hold.below {W w1 : World} {H : Nat} {L : List (Option (List UInt8) × Option (List UInt8))} (h : Hold H L W) (hb : Below W.heap.size W w1) : Hold H L w1 := by
  obtain ⟨ao, n, c, h1, h2⟩ := h
  exact ⟨ao, n, c, cell_later hb h1, h2.below hb⟩

theorem asks_any (H : Nat) (L : List (Option (List UInt8) × Option (List UInt8))) (la ha : Option Addr) (ln lc hn hc : Nat) (lo hi : Option (List UInt8)) (w : World) (h : Hold H L w) (h3 : KS w la ln lc lo) (h4 : KS w ha hn hc hi) :
    Calls Try.prog 19 #[.pointer (some ⟨H, 0, none⟩), .agg #[.slice la ln lc, .slice ha hn hc]] w fun e w' => e = .returned (.bool (holdsL L (lo, hi))) ∧ Below w.heap.size w w' := by
  obtain ⟨ao, n, c, h1, h2⟩ := h
  exact zzholds_any H ao n c L la ha ln lc hn hc lo hi w h1 h2 h3 h4

theorem one_row {w6 w7 : World} {la ha : Option Addr} {ln lc hn hc : Nat} {lo hi : Option (List UInt8)} (k1 : KS w6 la ln lc lo) (k2 : KS w6 ha hn hc hi) (o : Obj) (ho : o = .cells #[.slice la ln lc, .slice ha hn hc] 47)
    (hb : Below (w6.alloc o).heap.size (w6.alloc o) w7) : RS w7 (some ⟨w6.heap.size, 0, none⟩) 1 [(lo, hi)] := by
  subst ho
  have hb' : Below w6.heap.size w6 w7 := step_below (below_alloc _ _) hb
  refine ⟨rfl, by omega, fun i hi' => ?_⟩
  obtain rfl : i = 0 := by omega
  exact ⟨_, _, la, ln, lc, ha, hn, hc, rfl, cell_later hb (by simp), cell_later hb (by simp), k1.below hb', k2.below hb'⟩

set_option maxHeartbeats 1000000 in
theorem law_any (ao : Option Addr) (n c : Nat) (L : List (Option (List UInt8) × Option (List UInt8))) (LA HA : Nat → Option Addr) (LN LC HN HC : Nat → Nat) (la ha ma : Option Addr) (ln lc hn hc mn mc : Nat) (lo hi km : Option (List UInt8)) (w : World) (hnn : n ≤ maxLen) (hL : L.length = n)
    (hcc : ∀ i, i < n → ∃ b off, ao = some ⟨b, off, none⟩ ∧ w.cell? ⟨b, off + i * 2, none⟩ = some (.slice (LA i) (LN i) (LC i)) ∧ w.cell? ⟨b, off + i * 2 + 1, none⟩ = some (.slice (HA i) (HN i) (HC i)))
    (hk1 : ∀ i, i < n → LN i ≤ 1048576 → KS w (LA i) (LN i) (LC i) (L.getD i (none, none)).1) (hk2 : ∀ i, i < n → HN i ≤ 1048576 → KS w (HA i) (HN i) (HC i) (L.getD i (none, none)).2)
    (hkl : ln ≤ 1048576 → KS w la ln lc lo) (hkh : hn ≤ 1048576 → KS w ha hn hc hi) (hkm : mn ≤ 1048576 → KS w ma mn mc km) :
    Calls Try.prog 4 #[.slice ao n c, .agg #[.slice la ln lc, .slice ha hn hc], .slice ma mn mc] w fun e w' => e = .returned (.bool true) ∧ Below w.heap.size w w' := by
  have q35 := eq35
  have r35 := ne35
  have HCC : Hid (∀ i, i < n → ∃ b off, ao = some ⟨b, off, none⟩ ∧ w.cell? ⟨b, off + i * 2, none⟩ = some (.slice (LA i) (LN i) (LC i)) ∧ w.cell? ⟨b, off + i * 2 + 1, none⟩ = some (.slice (HA i) (HN i) (HC i))) := hcc
  have HK1 : Hid (∀ i, i < n → LN i ≤ 1048576 → KS w (LA i) (LN i) (LC i) (L.getD i (none, none)).1) := hk1
  have HK2 : Hid (∀ i, i < n → HN i ≤ 1048576 → KS w (HA i) (HN i) (HC i) (L.getD i (none, none)).2) := hk2
  have HKL : Hid (ln ≤ 1048576 → KS w la ln lc lo) := hkl
  have HKH : Hid (hn ≤ 1048576 → KS w ha hn hc hi) := hkh
  have HKM : Hid (mn ≤ 1048576 → KS w ma mn mc km) := hkm
  have HL : Hid (L.length = n) := hL
  have HNN : Hid (n ≤ maxLen) := hnn
  clear hcc hk1 hk2 hkl hkh hkm hL hnn
  go_enter Try.func4, Try.ntmps4
  go_wp2_with fail
  refine (zzBytes_any ao n c LA HA LN LC HN HC la ln lc ha hn hc ma mn mc _ HNN.out (fun i hi => by
    obtain ⟨b, off, e, g1, g2⟩ := HCC.out i hi
    exact ⟨b, off, e, cell_later (below_alloc _ _) g1, cell_later (below_alloc _ _) g2⟩)).mono ?_
  rintro e w1 ⟨⟨r, rfl, hr⟩, hb1⟩
  have B1 : Hid (Below w.heap.size w w1) := step_below (below_alloc _ _) hb1
  obtain ⟨g0, g1, hz⟩ := keep2 (N := w.heap.size) (v0 := .slice la ln lc) (v1 := .slice ha hn hc) hb1 (by simp) (by simp)
  clear hb1
  cases r with
  | false =>
    clear hr
    go_wp2
    go_ret
    exact ⟨rfl, B1.out⟩
  | true =>
  obtain ⟨f1, f2, f3, f4, f5⟩ := hr rfl
  clear hr
  have HR : Hid (RS w ao n L) := by
    refine ⟨HL.out, f1, fun i hi => ?_⟩
    obtain ⟨b, off, e, g1, g2⟩ := HCC.out i hi
    exact ⟨b, off, _, _, _, _, _, _, e, g1, g2, HK1.out i hi (f2 i hi).1, HK2.out i hi (f2 i hi).2⟩
  have KL : Hid (KS w la ln lc lo) := HKL.out f3
  have KH : Hid (KS w ha hn hc hi) := HKH.out f4
  have KM : Hid (KS w ma mn mc km) := HKM.out f5
  clear HCC HK1 HK2 HKL HKH HKM HNN f2
  by_cases h16 : (65536 : Int) < (n : Int)
  · go_wp2
    go_ret
    exact ⟨rfl, B1.out⟩
  go_wp2_with fail
  refine (rangesBytes_any 0 ao n c _ (by unfold maxLen; omega) (fun i hi => by
    obtain ⟨b, off, la', ln', lc', ha', hn', hc', e, g1, g2, _, _⟩ := (HR.out.below B1.out).2.2 i hi
    exact ⟨b, off, e, ⟨_, _, _, g1⟩, ⟨_, _, _, g2⟩⟩)).mono ?_
  rintro e w' ⟨⟨t1, rfl⟩, hw⟩
  subst hw
  go_wp2_with fail
  refine (add_any _ _ _).mono ?_
  rintro e w' ⟨⟨t2, rfl⟩, hw⟩
  subst hw
  go_wp2_with fail
  refine (add_any _ _ _).mono ?_
  rintro e w' ⟨⟨t3, rfl⟩, hw⟩
  subst hw
  go_wp2_with fail
  refine (add_any _ _ _).mono ?_
  rintro e w' ⟨⟨t4, rfl⟩, hw⟩
  subst hw
  by_cases ht : 1048576 < t4
  · go_wp2
    go_ret
    exact ⟨rfl, B1.out⟩
  go_wp2_with fail
  refine (chain_any ao n c L _ (HR.out.below B1.out)).mono ?_
  rintro e w2 ⟨⟨r, rfl, hr⟩, hb2⟩
  have B2 : Hid (Below w.heap.size w w2) := step_below B1.out hb2
  obtain ⟨g0', g1', hz'⟩ := keep2 hb2 g0 g1
  clear hb2 B1 ht g0 g1 hz
  have g0 := g0'
  have g1 := g1'
  have hz := hz'
  clear g0' g1' hz'
  cases r with
  | false =>
    clear hr
    go_wp2
    go_ret
    exact ⟨rfl, B2.out⟩
  | true =>
  have HC : Hid (Chain L L.length) := hr rfl
  clear hr
  rcases KM.out with ⟨rfl, rfl, rfl, rfl⟩ | ⟨xm, zm, rfl, rfl, hm⟩
  · go_wp2
    go_ret
    exact ⟨rfl, B2.out⟩
  have BM : Hid (BS w (some xm) mn zm) := hm
  clear hm
  have LOW : (la = none ∧ ln = 0 ∧ lc = 0 ∧ Hid (lo = none)) ∨ ∃ x zs, la = some x ∧ Hid (lo = some zs) ∧ Hid (BS w (some x) ln zs) := by
    rcases KL.out with ⟨rfl, rfl, rfl, e⟩ | ⟨x, zs, rfl, e, h⟩
    · exact .inl ⟨rfl, rfl, rfl, e⟩
    · exact .inr ⟨x, zs, rfl, e, h⟩
  have HIGH : (ha = none ∧ hn = 0 ∧ hc = 0 ∧ Hid (hi = none)) ∨ ∃ x zs, ha = some x ∧ Hid (hi = some zs) ∧ Hid (BS w (some x) hn zs) := by
    rcases KH.out with ⟨rfl, rfl, rfl, e⟩ | ⟨x, zs, rfl, e, h⟩
    · exact .inl ⟨rfl, rfl, rfl, e⟩
    · exact .inr ⟨x, zs, rfl, e, h⟩
  rcases LOW with ⟨rfl, rfl, rfl, EL⟩ | ⟨xl, zl, rfl, EL, BL⟩
  · have CL : Hid (∀ a, lo = some a → cmpB a zm ≤ 0) := fun a ha => by rw [EL.out] at ha; cases ha
    rcases HIGH with ⟨rfl, rfl, rfl, EH⟩ | ⟨xh, zh, rfl, EH, BH⟩
    · have CH : Hid (∀ a, hi = some a → cmpB zm a ≤ 0) := fun a ha => by rw [EH.out] at ha; cases ha
      have BW := B2
      have G0 := g0
      have G1 := g1
      clear B2 g0 g1 EL EH
      go_wp2_with fail
      refine (ranges_any ao n c L _ (HR.out.below (Env.start BW.out G0 G1).1)).mono ?_
      rintro e x1 ⟨ao1, c1, rfl, R1', hb⟩
      have E1 : Hid (Env w _ _ _ _ x1) := (Env.start BW.out G0 G1).below hb
      have R1 : Hid (RS x1 ao1 n L) := R1'
      clear hb BW G0 G1 R1' HR
      go_wp2_with fail
      refine (newHolder_any ao1 n c1 _).mono ?_
      rintro e x2 ⟨rfl, hc2, hb⟩
      have E2 : Hid (Env w _ _ _ _ x2) := E1.out.below hb
      have H2 : Hid (Hold x1.heap.size L x2) := ⟨_, _, _, hc2, R1.out.below hb⟩
      clear hc2 R1 E1 hb
      generalize x1.heap.size = A1 at *
      obtain ⟨-, s0, s1, -⟩ := E2.out
      go_wp2_with fail
      refine (range_any _ _ _ _ _ _ _ _ _ (KL.out.below E2.out.1) (KH.out.below E2.out.1)).mono ?_
      rintro e x3 ⟨la3, ln3, lc3, ha3, hn3, hc3, rfl, k3, j3, hb, _, _⟩
      have E3 : Hid (Env w _ _ _ _ x3) := E2.out.below hb
      have H3 : Hid (Hold A1 L x3) := H2.out.below hb
      have K3 : Hid (KS x3 la3 ln3 lc3 lo) := k3
      have J3 : Hid (KS x3 ha3 hn3 hc3 hi) := j3
      clear hb k3 j3 E2 H2 s0 s1
      go_wp2_with fail
      refine (newHolder_any _ _ _ _).mono ?_
      rintro e x4 ⟨rfl, hc4, hb⟩
      have hb' := step_below (below_alloc _ _) hb
      have E4 : Hid (Env w _ _ _ _ x4) := E3.out.below hb'
      have H4 : Hid (Hold A1 L x4) := H3.out.below hb'
      have O4 : Hid (Hold (x3.alloc (.cells #[.slice la3 ln3 lc3, .slice ha3 hn3 hc3] 47)).heap.size [(lo, hi)] x4) := ⟨_, _, _, hc4, one_row K3.out J3.out _ rfl hb⟩
      clear hb hb' hc4 E3 H3 K3 J3
      generalize (x3.alloc (.cells #[.slice la3 ln3 lc3, .slice ha3 hn3 hc3] 47)).heap.size = A2 at *
      obtain ⟨-, s0, s1, -⟩ := E4.out
      go_wp2_with fail
      refine (range_any _ _ _ _ _ _ _ _ _ (KL.out.below E4.out.1) (KH.out.below E4.out.1)).mono ?_
      rintro e x5 ⟨la5, ln5, lc5, ha5, hn5, hc5, rfl, k5, j5, hb, _, _⟩
      have E5 : Hid (Env w _ _ _ _ x5) := E4.out.below hb
      have H5 : Hid (Hold A1 L x5) := H4.out.below hb
      have O5 : Hid (Hold A2 [(lo, hi)] x5) := O4.out.below hb
      have K5 : Hid (KS x5 la5 ln5 lc5 _) := k5
      have J5 : Hid (KS x5 ha5 hn5 hc5 _) := j5
      clear hb k5 j5 E4 H4 O4
      go_wp2_with fail
      refine (asks_any _ _ _ _ _ _ _ _ _ _ _ H5.out K5.out J5.out).mono ?_
      rintro e x6 ⟨rfl, hb⟩
      have E6 : Hid (Env w _ _ _ _ x6) := E5.out.below hb
      have H6 : Hid (Hold A1 L x6) := H5.out.below hb
      have O6 : Hid (Hold A2 [(lo, hi)] x6) := O5.out.below hb
      clear hb E5 H5 O5 K5 J5
      obtain ⟨whole, hwh⟩ : ∃ b : Bool, b = holdsL L (lo, hi) := ⟨_, rfl⟩
      rw [← hwh]
      have HW : Hid (whole = (holdsL L (lo, some zm) && holdsL L (some zm, hi))) := hwh.trans (holds_cut L HC.out (lo, hi) zm CL.out CH.out)
      clear hwh
      obtain ⟨-, -, -, s2, s3, -⟩ := E6.out
      go_wp2_with fail
      refine (range_any _ _ _ _ _ _ _ _ _ (KL.out.below E6.out.1) (KM.out.below E6.out.1)).mono ?_
      rintro e x7 ⟨la7, ln7, lc7, ha7, hn7, hc7, rfl, k7, j7, hb, _, _⟩
      have E7 : Hid (Env w _ _ _ _ x7) := E6.out.below hb
      have H7 : Hid (Hold A1 L x7) := H6.out.below hb
      have O7 : Hid (Hold A2 [(lo, hi)] x7) := O6.out.below hb
      have K7 : Hid (KS x7 la7 ln7 lc7 _) := k7
      have J7 : Hid (KS x7 ha7 hn7 hc7 _) := j7
      clear hb k7 j7 E6 H6 O6
      go_wp2_with fail
      refine (asks_any _ _ _ _ _ _ _ _ _ _ _ H7.out K7.out J7.out).mono ?_
      rintro e x8 ⟨rfl, hb⟩
      have E8 : Hid (Env w _ _ _ _ x8) := E7.out.below hb
      have H8 : Hid (Hold A1 L x8) := H7.out.below hb
      have O8 : Hid (Hold A2 [(lo, hi)] x8) := O7.out.below hb
      clear hb E7 H7 O7 K7 J7
      cases hp1 : holdsL L (lo, some zm) with
      | true =>
        have HW2 : Hid (whole = holdsL L (some zm, hi)) := by have := HW.out; rw [hp1, Bool.true_and] at this; exact this
        clear hp1 HW
        obtain ⟨-, -, -, -, -, s4, s5⟩ := E8.out
        go_wp2_with fail
        refine (range_any _ _ _ _ _ _ _ _ _ (KM.out.below E8.out.1) (KH.out.below E8.out.1)).mono ?_
        rintro e x9 ⟨la9, ln9, lc9, ha9, hn9, hc9, rfl, k9, j9, hb, _, _⟩
        have E9 : Hid (Env w _ _ _ _ x9) := E8.out.below hb
        have H9 : Hid (Hold A1 L x9) := H8.out.below hb
        have O9 : Hid (Hold A2 [(lo, hi)] x9) := O8.out.below hb
        have K9 : Hid (KS x9 la9 ln9 lc9 _) := k9
        have J9 : Hid (KS x9 ha9 hn9 hc9 _) := j9
        clear hb k9 j9 E8 H8 O8
        go_wp2_with fail
        refine (asks_any _ _ _ _ _ _ _ _ _ _ _ H9.out K9.out J9.out).mono ?_
        rintro e x10 ⟨rfl, hb⟩
        rw [← HW2.out]
        have E10 : Hid (Env w _ _ _ _ x10) := E9.out.below hb
        have H10 : Hid (Hold A1 L x10) := H9.out.below hb
        have O10 : Hid (Hold A2 [(lo, hi)] x10) := O9.out.below hb
        clear hb E9 H9 O9 K9 J9
        obtain ⟨-, -, -, s2, s3, -⟩ := E10.out
        go_wp2_with fail
        refine (range_any _ _ _ _ _ _ _ _ _ (KL.out.below E10.out.1) (KM.out.below E10.out.1)).mono ?_
        rintro e x11 ⟨la11, ln11, lc11, ha11, hn11, hc11, rfl, k11, j11, hb, _, _⟩
        have E11 : Hid (Env w _ _ _ _ x11) := E10.out.below hb
        have H11 : Hid (Hold A1 L x11) := H10.out.below hb
        have O11 : Hid (Hold A2 [(lo, hi)] x11) := O10.out.below hb
        have K11 : Hid (KS x11 la11 ln11 lc11 _) := k11
        have J11 : Hid (KS x11 ha11 hn11 hc11 _) := j11
        clear hb k11 j11 E10 H10 O10
        go_wp2_with fail
        refine (asks_any _ _ _ _ _ _ _ _ _ _ _ O11.out K11.out J11.out).mono ?_
        rintro e x12 ⟨rfl, hb⟩
        rw [(one_holds (lo, hi) zm CL.out CH.out).1]
        have E12 : Hid (Env w _ _ _ _ x12) := E11.out.below hb
        have H12 : Hid (Hold A1 L x12) := H11.out.below hb
        have O12 : Hid (Hold A2 [(lo, hi)] x12) := O11.out.below hb
        clear hb E11 H11 O11 K11 J11
        obtain ⟨-, -, -, -, -, s4, s5⟩ := E12.out
        go_wp2_with fail
        refine (range_any _ _ _ _ _ _ _ _ _ (KM.out.below E12.out.1) (KH.out.below E12.out.1)).mono ?_
        rintro e x13 ⟨la13, ln13, lc13, ha13, hn13, hc13, rfl, k13, j13, hb, _, _⟩
        have E13 : Hid (Env w _ _ _ _ x13) := E12.out.below hb
        have H13 : Hid (Hold A1 L x13) := H12.out.below hb
        have O13 : Hid (Hold A2 [(lo, hi)] x13) := O12.out.below hb
        have K13 : Hid (KS x13 la13 ln13 lc13 _) := k13
        have J13 : Hid (KS x13 ha13 hn13 hc13 _) := j13
        clear hb k13 j13 E12 H12 O12
        go_wp2_with fail
        refine (asks_any _ _ _ _ _ _ _ _ _ _ _ O13.out K13.out J13.out).mono ?_
        rintro e x14 ⟨rfl, hb⟩
        rw [(one_holds (lo, hi) zm CL.out CH.out).2]
        have E14 : Hid (Env w _ _ _ _ x14) := E13.out.below hb
        have H14 : Hid (Hold A1 L x14) := H13.out.below hb
        have O14 : Hid (Hold A2 [(lo, hi)] x14) := O13.out.below hb
        clear hb E13 H13 O13 K13 J13
        go_wp2
        go_ret
        exact ⟨rfl, E14.out.1⟩
      | false =>
        have HW2 : Hid (whole = false) := by have := HW.out; rw [hp1, Bool.false_and] at this; exact this
        have hw2 := HW2.out
        subst hw2
        clear hp1 HW HW2
        obtain ⟨-, -, -, s2, s3, -⟩ := E8.out
        go_wp2_with fail
        refine (range_any _ _ _ _ _ _ _ _ _ (KL.out.below E8.out.1) (KM.out.below E8.out.1)).mono ?_
        rintro e x9 ⟨la9, ln9, lc9, ha9, hn9, hc9, rfl, k9, j9, hb, _, _⟩
        have E9 : Hid (Env w _ _ _ _ x9) := E8.out.below hb
        have H9 : Hid (Hold A1 L x9) := H8.out.below hb
        have O9 : Hid (Hold A2 [(lo, hi)] x9) := O8.out.below hb
        have K9 : Hid (KS x9 la9 ln9 lc9 _) := k9
        have J9 : Hid (KS x9 ha9 hn9 hc9 _) := j9
        clear hb k9 j9 E8 H8 O8
        go_wp2_with fail
        refine (asks_any _ _ _ _ _ _ _ _ _ _ _ O9.out K9.out J9.out).mono ?_
        rintro e x10 ⟨rfl, hb⟩
        rw [(one_holds (lo, hi) zm CL.out CH.out).1]
        have E10 : Hid (Env w _ _ _ _ x10) := E9.out.below hb
        have H10 : Hid (Hold A1 L x10) := H9.out.below hb
        have O10 : Hid (Hold A2 [(lo, hi)] x10) := O9.out.below hb
        clear hb E9 H9 O9 K9 J9
        obtain ⟨-, -, -, -, -, s4, s5⟩ := E10.out
        go_wp2_with fail
        refine (range_any _ _ _ _ _ _ _ _ _ (KM.out.below E10.out.1) (KH.out.below E10.out.1)).mono ?_
        rintro e x11 ⟨la11, ln11, lc11, ha11, hn11, hc11, rfl, k11, j11, hb, _, _⟩
        have E11 : Hid (Env w _ _ _ _ x11) := E10.out.below hb
        have H11 : Hid (Hold A1 L x11) := H10.out.below hb
        have O11 : Hid (Hold A2 [(lo, hi)] x11) := O10.out.below hb
        have K11 : Hid (KS x11 la11 ln11 lc11 _) := k11
        have J11 : Hid (KS x11 ha11 hn11 hc11 _) := j11
        clear hb k11 j11 E10 H10 O10
        go_wp2_with fail
        refine (asks_any _ _ _ _ _ _ _ _ _ _ _ O11.out K11.out J11.out).mono ?_
        rintro e x12 ⟨rfl, hb⟩
        rw [(one_holds (lo, hi) zm CL.out CH.out).2]
        have E12 : Hid (Env w _ _ _ _ x12) := E11.out.below hb
        have H12 : Hid (Hold A1 L x12) := H11.out.below hb
        have O12 : Hid (Hold A2 [(lo, hi)] x12) := O11.out.below hb
        clear hb E11 H11 O11 K11 J11
        go_wp2
        go_ret
        exact ⟨rfl, E12.out.1⟩
    · by_cases hcm : 0 < cmpB zm zh
      · go_wp2_with (go_at_call 15; refine (cmp_any _ _ _ _ _ _ _ _ _ (BM.out.below B2.out) (BH.out.below B2.out)).mono ?_; rintro e w3 ⟨rfl, q, rfl⟩)
        go_ret
        exact ⟨rfl, below_drewN B2.out _⟩
      · have CH : Hid (∀ a, hi = some a → cmpB zm a ≤ 0) := fun a ha => by rw [EH.out] at ha; cases ha; omega
        go_wp2_with fail
        refine (cmp_any _ _ _ _ _ _ _ _ _ (BM.out.below B2.out) (BH.out.below B2.out)).mono ?_
        rintro e w3 ⟨rfl, q, hq⟩
        have BW : Hid (Below w.heap.size w w3) := by rw [hq]; exact below_drewN B2.out _
        have G0 : w3.cell? ⟨w.heap.size, 0, none⟩ = some (.slice none 0 0) := by rw [hq]; exact g0
        have G1 : w3.cell? ⟨w.heap.size, 1, none⟩ = some (.slice (some xh) hn hc) := by rw [hq]; exact g1
        have hzW : w.heap.size < w3.heap.size := by rw [hq]; exact hz
        clear hq g0 g1 hz B2 EL EH BH
        go_wp2_with fail
        refine (ranges_any ao n c L _ (HR.out.below (Env.start BW.out G0 G1).1)).mono ?_
        rintro e x1 ⟨ao1, c1, rfl, R1', hb⟩
        have E1 : Hid (Env w _ _ _ _ x1) := (Env.start BW.out G0 G1).below hb
        have R1 : Hid (RS x1 ao1 n L) := R1'
        clear hb BW G0 G1 R1' HR
        go_wp2_with fail
        refine (newHolder_any ao1 n c1 _).mono ?_
        rintro e x2 ⟨rfl, hc2, hb⟩
        have E2 : Hid (Env w _ _ _ _ x2) := E1.out.below hb
        have H2 : Hid (Hold x1.heap.size L x2) := ⟨_, _, _, hc2, R1.out.below hb⟩
        clear hc2 R1 E1 hb
        generalize x1.heap.size = A1 at *
        obtain ⟨-, s0, s1, -⟩ := E2.out
        go_wp2_with fail
        refine (range_any _ _ _ _ _ _ _ _ _ (KL.out.below E2.out.1) (KH.out.below E2.out.1)).mono ?_
        rintro e x3 ⟨la3, ln3, lc3, ha3, hn3, hc3, rfl, k3, j3, hb, _, _⟩
        have E3 : Hid (Env w _ _ _ _ x3) := E2.out.below hb
        have H3 : Hid (Hold A1 L x3) := H2.out.below hb
        have K3 : Hid (KS x3 la3 ln3 lc3 lo) := k3
        have J3 : Hid (KS x3 ha3 hn3 hc3 hi) := j3
        clear hb k3 j3 E2 H2 s0 s1
        go_wp2_with fail
        refine (newHolder_any _ _ _ _).mono ?_
        rintro e x4 ⟨rfl, hc4, hb⟩
        have hb' := step_below (below_alloc _ _) hb
        have E4 : Hid (Env w _ _ _ _ x4) := E3.out.below hb'
        have H4 : Hid (Hold A1 L x4) := H3.out.below hb'
        have O4 : Hid (Hold (x3.alloc (.cells #[.slice la3 ln3 lc3, .slice ha3 hn3 hc3] 47)).heap.size [(lo, hi)] x4) := ⟨_, _, _, hc4, one_row K3.out J3.out _ rfl hb⟩
        clear hb hb' hc4 E3 H3 K3 J3
        generalize (x3.alloc (.cells #[.slice la3 ln3 lc3, .slice ha3 hn3 hc3] 47)).heap.size = A2 at *
        obtain ⟨-, s0, s1, -⟩ := E4.out
        go_wp2_with fail
        refine (range_any _ _ _ _ _ _ _ _ _ (KL.out.below E4.out.1) (KH.out.below E4.out.1)).mono ?_
        rintro e x5 ⟨la5, ln5, lc5, ha5, hn5, hc5, rfl, k5, j5, hb, _, _⟩
        have E5 : Hid (Env w _ _ _ _ x5) := E4.out.below hb
        have H5 : Hid (Hold A1 L x5) := H4.out.below hb
        have O5 : Hid (Hold A2 [(lo, hi)] x5) := O4.out.below hb
        have K5 : Hid (KS x5 la5 ln5 lc5 _) := k5
        have J5 : Hid (KS x5 ha5 hn5 hc5 _) := j5
        clear hb k5 j5 E4 H4 O4
        go_wp2_with fail
        refine (asks_any _ _ _ _ _ _ _ _ _ _ _ H5.out K5.out J5.out).mono ?_
        rintro e x6 ⟨rfl, hb⟩
        have E6 : Hid (Env w _ _ _ _ x6) := E5.out.below hb
        have H6 : Hid (Hold A1 L x6) := H5.out.below hb
        have O6 : Hid (Hold A2 [(lo, hi)] x6) := O5.out.below hb
        clear hb E5 H5 O5 K5 J5
        obtain ⟨whole, hwh⟩ : ∃ b : Bool, b = holdsL L (lo, hi) := ⟨_, rfl⟩
        rw [← hwh]
        have HW : Hid (whole = (holdsL L (lo, some zm) && holdsL L (some zm, hi))) := hwh.trans (holds_cut L HC.out (lo, hi) zm CL.out CH.out)
        clear hwh
        obtain ⟨-, -, -, s2, s3, -⟩ := E6.out
        go_wp2_with fail
        refine (range_any _ _ _ _ _ _ _ _ _ (KL.out.below E6.out.1) (KM.out.below E6.out.1)).mono ?_
        rintro e x7 ⟨la7, ln7, lc7, ha7, hn7, hc7, rfl, k7, j7, hb, _, _⟩
        have E7 : Hid (Env w _ _ _ _ x7) := E6.out.below hb
        have H7 : Hid (Hold A1 L x7) := H6.out.below hb
        have O7 : Hid (Hold A2 [(lo, hi)] x7) := O6.out.below hb
        have K7 : Hid (KS x7 la7 ln7 lc7 _) := k7
        have J7 : Hid (KS x7 ha7 hn7 hc7 _) := j7
        clear hb k7 j7 E6 H6 O6
        go_wp2_with fail
        refine (asks_any _ _ _ _ _ _ _ _ _ _ _ H7.out K7.out J7.out).mono ?_
        rintro e x8 ⟨rfl, hb⟩
        have E8 : Hid (Env w _ _ _ _ x8) := E7.out.below hb
        have H8 : Hid (Hold A1 L x8) := H7.out.below hb
        have O8 : Hid (Hold A2 [(lo, hi)] x8) := O7.out.below hb
        clear hb E7 H7 O7 K7 J7
        cases hp1 : holdsL L (lo, some zm) with
        | true =>
          have HW2 : Hid (whole = holdsL L (some zm, hi)) := by have := HW.out; rw [hp1, Bool.true_and] at this; exact this
          clear hp1 HW
          obtain ⟨-, -, -, -, -, s4, s5⟩ := E8.out
          go_wp2_with fail
          refine (range_any _ _ _ _ _ _ _ _ _ (KM.out.below E8.out.1) (KH.out.below E8.out.1)).mono ?_
          rintro e x9 ⟨la9, ln9, lc9, ha9, hn9, hc9, rfl, k9, j9, hb, _, _⟩
          have E9 : Hid (Env w _ _ _ _ x9) := E8.out.below hb
          have H9 : Hid (Hold A1 L x9) := H8.out.below hb
          have O9 : Hid (Hold A2 [(lo, hi)] x9) := O8.out.below hb
          have K9 : Hid (KS x9 la9 ln9 lc9 _) := k9
          have J9 : Hid (KS x9 ha9 hn9 hc9 _) := j9
          clear hb k9 j9 E8 H8 O8
          go_wp2_with fail
          refine (asks_any _ _ _ _ _ _ _ _ _ _ _ H9.out K9.out J9.out).mono ?_
          rintro e x10 ⟨rfl, hb⟩
          rw [← HW2.out]
          have E10 : Hid (Env w _ _ _ _ x10) := E9.out.below hb
          have H10 : Hid (Hold A1 L x10) := H9.out.below hb
          have O10 : Hid (Hold A2 [(lo, hi)] x10) := O9.out.below hb
          clear hb E9 H9 O9 K9 J9
          obtain ⟨-, -, -, s2, s3, -⟩ := E10.out
          go_wp2_with fail
          refine (range_any _ _ _ _ _ _ _ _ _ (KL.out.below E10.out.1) (KM.out.below E10.out.1)).mono ?_
          rintro e x11 ⟨la11, ln11, lc11, ha11, hn11, hc11, rfl, k11, j11, hb, _, _⟩
          have E11 : Hid (Env w _ _ _ _ x11) := E10.out.below hb
          have H11 : Hid (Hold A1 L x11) := H10.out.below hb
          have O11 : Hid (Hold A2 [(lo, hi)] x11) := O10.out.below hb
          have K11 : Hid (KS x11 la11 ln11 lc11 _) := k11
          have J11 : Hid (KS x11 ha11 hn11 hc11 _) := j11
          clear hb k11 j11 E10 H10 O10
          go_wp2_with fail
          refine (asks_any _ _ _ _ _ _ _ _ _ _ _ O11.out K11.out J11.out).mono ?_
          rintro e x12 ⟨rfl, hb⟩
          rw [(one_holds (lo, hi) zm CL.out CH.out).1]
          have E12 : Hid (Env w _ _ _ _ x12) := E11.out.below hb
          have H12 : Hid (Hold A1 L x12) := H11.out.below hb
          have O12 : Hid (Hold A2 [(lo, hi)] x12) := O11.out.below hb
          clear hb E11 H11 O11 K11 J11
          obtain ⟨-, -, -, -, -, s4, s5⟩ := E12.out
          go_wp2_with fail
          refine (range_any _ _ _ _ _ _ _ _ _ (KM.out.below E12.out.1) (KH.out.below E12.out.1)).mono ?_
          rintro e x13 ⟨la13, ln13, lc13, ha13, hn13, hc13, rfl, k13, j13, hb, _, _⟩
          have E13 : Hid (Env w _ _ _ _ x13) := E12.out.below hb
          have H13 : Hid (Hold A1 L x13) := H12.out.below hb
          have O13 : Hid (Hold A2 [(lo, hi)] x13) := O12.out.below hb
          have K13 : Hid (KS x13 la13 ln13 lc13 _) := k13
          have J13 : Hid (KS x13 ha13 hn13 hc13 _) := j13
          clear hb k13 j13 E12 H12 O12
          go_wp2_with fail
          refine (asks_any _ _ _ _ _ _ _ _ _ _ _ O13.out K13.out J13.out).mono ?_
          rintro e x14 ⟨rfl, hb⟩
          rw [(one_holds (lo, hi) zm CL.out CH.out).2]
          have E14 : Hid (Env w _ _ _ _ x14) := E13.out.below hb
          have H14 : Hid (Hold A1 L x14) := H13.out.below hb
          have O14 : Hid (Hold A2 [(lo, hi)] x14) := O13.out.below hb
          clear hb E13 H13 O13 K13 J13
          go_wp2
          go_ret
          exact ⟨rfl, E14.out.1⟩
        | false =>
          have HW2 : Hid (whole = false) := by have := HW.out; rw [hp1, Bool.false_and] at this; exact this
          have hw2 := HW2.out
          subst hw2
          clear hp1 HW HW2
          obtain ⟨-, -, -, s2, s3, -⟩ := E8.out
          go_wp2_with fail
          refine (range_any _ _ _ _ _ _ _ _ _ (KL.out.below E8.out.1) (KM.out.below E8.out.1)).mono ?_
          rintro e x9 ⟨la9, ln9, lc9, ha9, hn9, hc9, rfl, k9, j9, hb, _, _⟩
          have E9 : Hid (Env w _ _ _ _ x9) := E8.out.below hb
          have H9 : Hid (Hold A1 L x9) := H8.out.below hb
          have O9 : Hid (Hold A2 [(lo, hi)] x9) := O8.out.below hb
          have K9 : Hid (KS x9 la9 ln9 lc9 _) := k9
          have J9 : Hid (KS x9 ha9 hn9 hc9 _) := j9
          clear hb k9 j9 E8 H8 O8
          go_wp2_with fail
          refine (asks_any _ _ _ _ _ _ _ _ _ _ _ O9.out K9.out J9.out).mono ?_
          rintro e x10 ⟨rfl, hb⟩
          rw [(one_holds (lo, hi) zm CL.out CH.out).1]
          have E10 : Hid (Env w _ _ _ _ x10) := E9.out.below hb
          have H10 : Hid (Hold A1 L x10) := H9.out.below hb
          have O10 : Hid (Hold A2 [(lo, hi)] x10) := O9.out.below hb
          clear hb E9 H9 O9 K9 J9
          obtain ⟨-, -, -, -, -, s4, s5⟩ := E10.out
          go_wp2_with fail
          refine (range_any _ _ _ _ _ _ _ _ _ (KM.out.below E10.out.1) (KH.out.below E10.out.1)).mono ?_
          rintro e x11 ⟨la11, ln11, lc11, ha11, hn11, hc11, rfl, k11, j11, hb, _, _⟩
          have E11 : Hid (Env w _ _ _ _ x11) := E10.out.below hb
          have H11 : Hid (Hold A1 L x11) := H10.out.below hb
          have O11 : Hid (Hold A2 [(lo, hi)] x11) := O10.out.below hb
          have K11 : Hid (KS x11 la11 ln11 lc11 _) := k11
          have J11 : Hid (KS x11 ha11 hn11 hc11 _) := j11
          clear hb k11 j11 E10 H10 O10
          go_wp2_with fail
          refine (asks_any _ _ _ _ _ _ _ _ _ _ _ O11.out K11.out J11.out).mono ?_
          rintro e x12 ⟨rfl, hb⟩
          rw [(one_holds (lo, hi) zm CL.out CH.out).2]
          have E12 : Hid (Env w _ _ _ _ x12) := E11.out.below hb
          have H12 : Hid (Hold A1 L x12) := H11.out.below hb
          have O12 : Hid (Hold A2 [(lo, hi)] x12) := O11.out.below hb
          clear hb E11 H11 O11 K11 J11
          go_wp2
          go_ret
          exact ⟨rfl, E12.out.1⟩
  · by_cases hcl : 0 < cmpB zl zm
    · go_wp2_with (go_at_call 15; refine (cmp_any _ _ _ _ _ _ _ _ _ (BL.out.below B2.out) (BM.out.below B2.out)).mono ?_; rintro e w3 ⟨rfl, q, rfl⟩)
      go_ret
      exact ⟨rfl, below_drewN B2.out _⟩
    have CL : Hid (∀ a, lo = some a → cmpB a zm ≤ 0) := fun a ha => by rw [EL.out] at ha; cases ha; omega
    go_wp2_with fail
    refine (cmp_any _ _ _ _ _ _ _ _ _ (BL.out.below B2.out) (BM.out.below B2.out)).mono ?_
    rintro e w3 ⟨rfl, q, hq⟩
    have B3 : Hid (Below w.heap.size w w3) := by rw [hq]; exact below_drewN B2.out _
    have G0 : w3.cell? ⟨w.heap.size, 0, none⟩ = some (.slice (some xl) ln lc) := by rw [hq]; exact g0
    have G1 : w3.cell? ⟨w.heap.size, 1, none⟩ = some (.slice ha hn hc) := by rw [hq]; exact g1
    have hz3 : w.heap.size < w3.heap.size := by rw [hq]; exact hz
    clear hq g0 g1 hz B2
    rcases HIGH with ⟨rfl, rfl, rfl, EH⟩ | ⟨xh, zh, rfl, EH, BH⟩
    · have CH : Hid (∀ a, hi = some a → cmpB zm a ≤ 0) := fun a ha => by rw [EH.out] at ha; cases ha
      have BW := B3
      clear B3 EL EH BL
      go_wp2_with fail
      refine (ranges_any ao n c L _ (HR.out.below (Env.start BW.out G0 G1).1)).mono ?_
      rintro e x1 ⟨ao1, c1, rfl, R1', hb⟩
      have E1 : Hid (Env w _ _ _ _ x1) := (Env.start BW.out G0 G1).below hb
      have R1 : Hid (RS x1 ao1 n L) := R1'
      clear hb BW G0 G1 R1' HR
      go_wp2_with fail
      refine (newHolder_any ao1 n c1 _).mono ?_
      rintro e x2 ⟨rfl, hc2, hb⟩
      have E2 : Hid (Env w _ _ _ _ x2) := E1.out.below hb
      have H2 : Hid (Hold x1.heap.size L x2) := ⟨_, _, _, hc2, R1.out.below hb⟩
      clear hc2 R1 E1 hb
      generalize x1.heap.size = A1 at *
      obtain ⟨-, s0, s1, -⟩ := E2.out
      go_wp2_with fail
      refine (range_any _ _ _ _ _ _ _ _ _ (KL.out.below E2.out.1) (KH.out.below E2.out.1)).mono ?_
      rintro e x3 ⟨la3, ln3, lc3, ha3, hn3, hc3, rfl, k3, j3, hb, _, _⟩
      have E3 : Hid (Env w _ _ _ _ x3) := E2.out.below hb
      have H3 : Hid (Hold A1 L x3) := H2.out.below hb
      have K3 : Hid (KS x3 la3 ln3 lc3 lo) := k3
      have J3 : Hid (KS x3 ha3 hn3 hc3 hi) := j3
      clear hb k3 j3 E2 H2 s0 s1
      go_wp2_with fail
      refine (newHolder_any _ _ _ _).mono ?_
      rintro e x4 ⟨rfl, hc4, hb⟩
      have hb' := step_below (below_alloc _ _) hb
      have E4 : Hid (Env w _ _ _ _ x4) := E3.out.below hb'
      have H4 : Hid (Hold A1 L x4) := H3.out.below hb'
      have O4 : Hid (Hold (x3.alloc (.cells #[.slice la3 ln3 lc3, .slice ha3 hn3 hc3] 47)).heap.size [(lo, hi)] x4) := ⟨_, _, _, hc4, one_row K3.out J3.out _ rfl hb⟩
      clear hb hb' hc4 E3 H3 K3 J3
      generalize (x3.alloc (.cells #[.slice la3 ln3 lc3, .slice ha3 hn3 hc3] 47)).heap.size = A2 at *
      obtain ⟨-, s0, s1, -⟩ := E4.out
      go_wp2_with fail
      refine (range_any _ _ _ _ _ _ _ _ _ (KL.out.below E4.out.1) (KH.out.below E4.out.1)).mono ?_
      rintro e x5 ⟨la5, ln5, lc5, ha5, hn5, hc5, rfl, k5, j5, hb, _, _⟩
      have E5 : Hid (Env w _ _ _ _ x5) := E4.out.below hb
      have H5 : Hid (Hold A1 L x5) := H4.out.below hb
      have O5 : Hid (Hold A2 [(lo, hi)] x5) := O4.out.below hb
      have K5 : Hid (KS x5 la5 ln5 lc5 _) := k5
      have J5 : Hid (KS x5 ha5 hn5 hc5 _) := j5
      clear hb k5 j5 E4 H4 O4
      go_wp2_with fail
      refine (asks_any _ _ _ _ _ _ _ _ _ _ _ H5.out K5.out J5.out).mono ?_
      rintro e x6 ⟨rfl, hb⟩
      have E6 : Hid (Env w _ _ _ _ x6) := E5.out.below hb
      have H6 : Hid (Hold A1 L x6) := H5.out.below hb
      have O6 : Hid (Hold A2 [(lo, hi)] x6) := O5.out.below hb
      clear hb E5 H5 O5 K5 J5
      obtain ⟨whole, hwh⟩ : ∃ b : Bool, b = holdsL L (lo, hi) := ⟨_, rfl⟩
      rw [← hwh]
      have HW : Hid (whole = (holdsL L (lo, some zm) && holdsL L (some zm, hi))) := hwh.trans (holds_cut L HC.out (lo, hi) zm CL.out CH.out)
      clear hwh
      obtain ⟨-, -, -, s2, s3, -⟩ := E6.out
      go_wp2_with fail
      refine (range_any _ _ _ _ _ _ _ _ _ (KL.out.below E6.out.1) (KM.out.below E6.out.1)).mono ?_
      rintro e x7 ⟨la7, ln7, lc7, ha7, hn7, hc7, rfl, k7, j7, hb, _, _⟩
      have E7 : Hid (Env w _ _ _ _ x7) := E6.out.below hb
      have H7 : Hid (Hold A1 L x7) := H6.out.below hb
      have O7 : Hid (Hold A2 [(lo, hi)] x7) := O6.out.below hb
      have K7 : Hid (KS x7 la7 ln7 lc7 _) := k7
      have J7 : Hid (KS x7 ha7 hn7 hc7 _) := j7
      clear hb k7 j7 E6 H6 O6
      go_wp2_with fail
      refine (asks_any _ _ _ _ _ _ _ _ _ _ _ H7.out K7.out J7.out).mono ?_
      rintro e x8 ⟨rfl, hb⟩
      have E8 : Hid (Env w _ _ _ _ x8) := E7.out.below hb
      have H8 : Hid (Hold A1 L x8) := H7.out.below hb
      have O8 : Hid (Hold A2 [(lo, hi)] x8) := O7.out.below hb
      clear hb E7 H7 O7 K7 J7
      cases hp1 : holdsL L (lo, some zm) with
      | true =>
        have HW2 : Hid (whole = holdsL L (some zm, hi)) := by have := HW.out; rw [hp1, Bool.true_and] at this; exact this
        clear hp1 HW
        obtain ⟨-, -, -, -, -, s4, s5⟩ := E8.out
        go_wp2_with fail
        refine (range_any _ _ _ _ _ _ _ _ _ (KM.out.below E8.out.1) (KH.out.below E8.out.1)).mono ?_
        rintro e x9 ⟨la9, ln9, lc9, ha9, hn9, hc9, rfl, k9, j9, hb, _, _⟩
        have E9 : Hid (Env w _ _ _ _ x9) := E8.out.below hb
        have H9 : Hid (Hold A1 L x9) := H8.out.below hb
        have O9 : Hid (Hold A2 [(lo, hi)] x9) := O8.out.below hb
        have K9 : Hid (KS x9 la9 ln9 lc9 _) := k9
        have J9 : Hid (KS x9 ha9 hn9 hc9 _) := j9
        clear hb k9 j9 E8 H8 O8
        go_wp2_with fail
        refine (asks_any _ _ _ _ _ _ _ _ _ _ _ H9.out K9.out J9.out).mono ?_
        rintro e x10 ⟨rfl, hb⟩
        rw [← HW2.out]
        have E10 : Hid (Env w _ _ _ _ x10) := E9.out.below hb
        have H10 : Hid (Hold A1 L x10) := H9.out.below hb
        have O10 : Hid (Hold A2 [(lo, hi)] x10) := O9.out.below hb
        clear hb E9 H9 O9 K9 J9
        obtain ⟨-, -, -, s2, s3, -⟩ := E10.out
        go_wp2_with fail
        refine (range_any _ _ _ _ _ _ _ _ _ (KL.out.below E10.out.1) (KM.out.below E10.out.1)).mono ?_
        rintro e x11 ⟨la11, ln11, lc11, ha11, hn11, hc11, rfl, k11, j11, hb, _, _⟩
        have E11 : Hid (Env w _ _ _ _ x11) := E10.out.below hb
        have H11 : Hid (Hold A1 L x11) := H10.out.below hb
        have O11 : Hid (Hold A2 [(lo, hi)] x11) := O10.out.below hb
        have K11 : Hid (KS x11 la11 ln11 lc11 _) := k11
        have J11 : Hid (KS x11 ha11 hn11 hc11 _) := j11
        clear hb k11 j11 E10 H10 O10
        go_wp2_with fail
        refine (asks_any _ _ _ _ _ _ _ _ _ _ _ O11.out K11.out J11.out).mono ?_
        rintro e x12 ⟨rfl, hb⟩
        rw [(one_holds (lo, hi) zm CL.out CH.out).1]
        have E12 : Hid (Env w _ _ _ _ x12) := E11.out.below hb
        have H12 : Hid (Hold A1 L x12) := H11.out.below hb
        have O12 : Hid (Hold A2 [(lo, hi)] x12) := O11.out.below hb
        clear hb E11 H11 O11 K11 J11
        obtain ⟨-, -, -, -, -, s4, s5⟩ := E12.out
        go_wp2_with fail
        refine (range_any _ _ _ _ _ _ _ _ _ (KM.out.below E12.out.1) (KH.out.below E12.out.1)).mono ?_
        rintro e x13 ⟨la13, ln13, lc13, ha13, hn13, hc13, rfl, k13, j13, hb, _, _⟩
        have E13 : Hid (Env w _ _ _ _ x13) := E12.out.below hb
        have H13 : Hid (Hold A1 L x13) := H12.out.below hb
        have O13 : Hid (Hold A2 [(lo, hi)] x13) := O12.out.below hb
        have K13 : Hid (KS x13 la13 ln13 lc13 _) := k13
        have J13 : Hid (KS x13 ha13 hn13 hc13 _) := j13
        clear hb k13 j13 E12 H12 O12
        go_wp2_with fail
        refine (asks_any _ _ _ _ _ _ _ _ _ _ _ O13.out K13.out J13.out).mono ?_
        rintro e x14 ⟨rfl, hb⟩
        rw [(one_holds (lo, hi) zm CL.out CH.out).2]
        have E14 : Hid (Env w _ _ _ _ x14) := E13.out.below hb
        have H14 : Hid (Hold A1 L x14) := H13.out.below hb
        have O14 : Hid (Hold A2 [(lo, hi)] x14) := O13.out.below hb
        clear hb E13 H13 O13 K13 J13
        go_wp2
        go_ret
        exact ⟨rfl, E14.out.1⟩
      | false =>
        have HW2 : Hid (whole = false) := by have := HW.out; rw [hp1, Bool.false_and] at this; exact this
        have hw2 := HW2.out
        subst hw2
        clear hp1 HW HW2
        obtain ⟨-, -, -, s2, s3, -⟩ := E8.out
        go_wp2_with fail
        refine (range_any _ _ _ _ _ _ _ _ _ (KL.out.below E8.out.1) (KM.out.below E8.out.1)).mono ?_
        rintro e x9 ⟨la9, ln9, lc9, ha9, hn9, hc9, rfl, k9, j9, hb, _, _⟩
        have E9 : Hid (Env w _ _ _ _ x9) := E8.out.below hb
        have H9 : Hid (Hold A1 L x9) := H8.out.below hb
        have O9 : Hid (Hold A2 [(lo, hi)] x9) := O8.out.below hb
        have K9 : Hid (KS x9 la9 ln9 lc9 _) := k9
        have J9 : Hid (KS x9 ha9 hn9 hc9 _) := j9
        clear hb k9 j9 E8 H8 O8
        go_wp2_with fail
        refine (asks_any _ _ _ _ _ _ _ _ _ _ _ O9.out K9.out J9.out).mono ?_
        rintro e x10 ⟨rfl, hb⟩
        rw [(one_holds (lo, hi) zm CL.out CH.out).1]
        have E10 : Hid (Env w _ _ _ _ x10) := E9.out.below hb
        have H10 : Hid (Hold A1 L x10) := H9.out.below hb
        have O10 : Hid (Hold A2 [(lo, hi)] x10) := O9.out.below hb
        clear hb E9 H9 O9 K9 J9
        obtain ⟨-, -, -, -, -, s4, s5⟩ := E10.out
        go_wp2_with fail
        refine (range_any _ _ _ _ _ _ _ _ _ (KM.out.below E10.out.1) (KH.out.below E10.out.1)).mono ?_
        rintro e x11 ⟨la11, ln11, lc11, ha11, hn11, hc11, rfl, k11, j11, hb, _, _⟩
        have E11 : Hid (Env w _ _ _ _ x11) := E10.out.below hb
        have H11 : Hid (Hold A1 L x11) := H10.out.below hb
        have O11 : Hid (Hold A2 [(lo, hi)] x11) := O10.out.below hb
        have K11 : Hid (KS x11 la11 ln11 lc11 _) := k11
        have J11 : Hid (KS x11 ha11 hn11 hc11 _) := j11
        clear hb k11 j11 E10 H10 O10
        go_wp2_with fail
        refine (asks_any _ _ _ _ _ _ _ _ _ _ _ O11.out K11.out J11.out).mono ?_
        rintro e x12 ⟨rfl, hb⟩
        rw [(one_holds (lo, hi) zm CL.out CH.out).2]
        have E12 : Hid (Env w _ _ _ _ x12) := E11.out.below hb
        have H12 : Hid (Hold A1 L x12) := H11.out.below hb
        have O12 : Hid (Hold A2 [(lo, hi)] x12) := O11.out.below hb
        clear hb E11 H11 O11 K11 J11
        go_wp2
        go_ret
        exact ⟨rfl, E12.out.1⟩
    · by_cases hcm : 0 < cmpB zm zh
      · go_wp2_with (go_at_call 15; refine (cmp_any _ _ _ _ _ _ _ _ _ (BM.out.below B3.out) (BH.out.below B3.out)).mono ?_; rintro e w3 ⟨rfl, q, rfl⟩)
        go_ret
        exact ⟨rfl, below_drewN B3.out _⟩
      · have CH : Hid (∀ a, hi = some a → cmpB zm a ≤ 0) := fun a ha => by rw [EH.out] at ha; cases ha; omega
        go_wp2_with fail
        refine (cmp_any _ _ _ _ _ _ _ _ _ (BM.out.below B3.out) (BH.out.below B3.out)).mono ?_
        rintro e w4 ⟨rfl, q, hq⟩
        have BW : Hid (Below w.heap.size w w4) := by rw [hq]; exact below_drewN B3.out _
        have G0' : w4.cell? ⟨w.heap.size, 0, none⟩ = some (.slice (some xl) ln lc) := by rw [hq]; exact G0
        have G1' : w4.cell? ⟨w.heap.size, 1, none⟩ = some (.slice (some xh) hn hc) := by rw [hq]; exact G1
        have hzW : w.heap.size < w4.heap.size := by rw [hq]; exact hz3
        clear hq G0 G1 hz3 B3 EL EH BL BH
        have G0 := G0'
        have G1 := G1'
        clear G0' G1'
        go_wp2_with fail
        refine (ranges_any ao n c L _ (HR.out.below (Env.start BW.out G0 G1).1)).mono ?_
        rintro e x1 ⟨ao1, c1, rfl, R1', hb⟩
        have E1 : Hid (Env w _ _ _ _ x1) := (Env.start BW.out G0 G1).below hb
        have R1 : Hid (RS x1 ao1 n L) := R1'
        clear hb BW G0 G1 R1' HR
        go_wp2_with fail
        refine (newHolder_any ao1 n c1 _).mono ?_
        rintro e x2 ⟨rfl, hc2, hb⟩
        have E2 : Hid (Env w _ _ _ _ x2) := E1.out.below hb
        have H2 : Hid (Hold x1.heap.size L x2) := ⟨_, _, _, hc2, R1.out.below hb⟩
        clear hc2 R1 E1 hb
        generalize x1.heap.size = A1 at *
        obtain ⟨-, s0, s1, -⟩ := E2.out
        go_wp2_with fail
        refine (range_any _ _ _ _ _ _ _ _ _ (KL.out.below E2.out.1) (KH.out.below E2.out.1)).mono ?_
        rintro e x3 ⟨la3, ln3, lc3, ha3, hn3, hc3, rfl, k3, j3, hb, _, _⟩
        have E3 : Hid (Env w _ _ _ _ x3) := E2.out.below hb
        have H3 : Hid (Hold A1 L x3) := H2.out.below hb
        have K3 : Hid (KS x3 la3 ln3 lc3 lo) := k3
        have J3 : Hid (KS x3 ha3 hn3 hc3 hi) := j3
        clear hb k3 j3 E2 H2 s0 s1
        go_wp2_with fail
        refine (newHolder_any _ _ _ _).mono ?_
        rintro e x4 ⟨rfl, hc4, hb⟩
        have hb' := step_below (below_alloc _ _) hb
        have E4 : Hid (Env w _ _ _ _ x4) := E3.out.below hb'
        have H4 : Hid (Hold A1 L x4) := H3.out.below hb'
        have O4 : Hid (Hold (x3.alloc (.cells #[.slice la3 ln3 lc3, .slice ha3 hn3 hc3] 47)).heap.size [(lo, hi)] x4) := ⟨_, _, _, hc4, one_row K3.out J3.out _ rfl hb⟩
        clear hb hb' hc4 E3 H3 K3 J3
        generalize (x3.alloc (.cells #[.slice la3 ln3 lc3, .slice ha3 hn3 hc3] 47)).heap.size = A2 at *
        obtain ⟨-, s0, s1, -⟩ := E4.out
        go_wp2_with fail
        refine (range_any _ _ _ _ _ _ _ _ _ (KL.out.below E4.out.1) (KH.out.below E4.out.1)).mono ?_
        rintro e x5 ⟨la5, ln5, lc5, ha5, hn5, hc5, rfl, k5, j5, hb, _, _⟩
        have E5 : Hid (Env w _ _ _ _ x5) := E4.out.below hb
        have H5 : Hid (Hold A1 L x5) := H4.out.below hb
        have O5 : Hid (Hold A2 [(lo, hi)] x5) := O4.out.below hb
        have K5 : Hid (KS x5 la5 ln5 lc5 _) := k5
        have J5 : Hid (KS x5 ha5 hn5 hc5 _) := j5
        clear hb k5 j5 E4 H4 O4
        go_wp2_with fail
        refine (asks_any _ _ _ _ _ _ _ _ _ _ _ H5.out K5.out J5.out).mono ?_
        rintro e x6 ⟨rfl, hb⟩
        have E6 : Hid (Env w _ _ _ _ x6) := E5.out.below hb
        have H6 : Hid (Hold A1 L x6) := H5.out.below hb
        have O6 : Hid (Hold A2 [(lo, hi)] x6) := O5.out.below hb
        clear hb E5 H5 O5 K5 J5
        obtain ⟨whole, hwh⟩ : ∃ b : Bool, b = holdsL L (lo, hi) := ⟨_, rfl⟩
        rw [← hwh]
        have HW : Hid (whole = (holdsL L (lo, some zm) && holdsL L (some zm, hi))) := hwh.trans (holds_cut L HC.out (lo, hi) zm CL.out CH.out)
        clear hwh
        obtain ⟨-, -, -, s2, s3, -⟩ := E6.out
        go_wp2_with fail
        refine (range_any _ _ _ _ _ _ _ _ _ (KL.out.below E6.out.1) (KM.out.below E6.out.1)).mono ?_
        rintro e x7 ⟨la7, ln7, lc7, ha7, hn7, hc7, rfl, k7, j7, hb, _, _⟩
        have E7 : Hid (Env w _ _ _ _ x7) := E6.out.below hb
        have H7 : Hid (Hold A1 L x7) := H6.out.below hb
        have O7 : Hid (Hold A2 [(lo, hi)] x7) := O6.out.below hb
        have K7 : Hid (KS x7 la7 ln7 lc7 _) := k7
        have J7 : Hid (KS x7 ha7 hn7 hc7 _) := j7
        clear hb k7 j7 E6 H6 O6
        go_wp2_with fail
        refine (asks_any _ _ _ _ _ _ _ _ _ _ _ H7.out K7.out J7.out).mono ?_
        rintro e x8 ⟨rfl, hb⟩
        have E8 : Hid (Env w _ _ _ _ x8) := E7.out.below hb
        have H8 : Hid (Hold A1 L x8) := H7.out.below hb
        have O8 : Hid (Hold A2 [(lo, hi)] x8) := O7.out.below hb
        clear hb E7 H7 O7 K7 J7
        cases hp1 : holdsL L (lo, some zm) with
        | true =>
          have HW2 : Hid (whole = holdsL L (some zm, hi)) := by have := HW.out; rw [hp1, Bool.true_and] at this; exact this
          clear hp1 HW
          obtain ⟨-, -, -, -, -, s4, s5⟩ := E8.out
          go_wp2_with fail
          refine (range_any _ _ _ _ _ _ _ _ _ (KM.out.below E8.out.1) (KH.out.below E8.out.1)).mono ?_
          rintro e x9 ⟨la9, ln9, lc9, ha9, hn9, hc9, rfl, k9, j9, hb, _, _⟩
          have E9 : Hid (Env w _ _ _ _ x9) := E8.out.below hb
          have H9 : Hid (Hold A1 L x9) := H8.out.below hb
          have O9 : Hid (Hold A2 [(lo, hi)] x9) := O8.out.below hb
          have K9 : Hid (KS x9 la9 ln9 lc9 _) := k9
          have J9 : Hid (KS x9 ha9 hn9 hc9 _) := j9
          clear hb k9 j9 E8 H8 O8
          go_wp2_with fail
          refine (asks_any _ _ _ _ _ _ _ _ _ _ _ H9.out K9.out J9.out).mono ?_
          rintro e x10 ⟨rfl, hb⟩
          rw [← HW2.out]
          have E10 : Hid (Env w _ _ _ _ x10) := E9.out.below hb
          have H10 : Hid (Hold A1 L x10) := H9.out.below hb
          have O10 : Hid (Hold A2 [(lo, hi)] x10) := O9.out.below hb
          clear hb E9 H9 O9 K9 J9
          obtain ⟨-, -, -, s2, s3, -⟩ := E10.out
          go_wp2_with fail
          refine (range_any _ _ _ _ _ _ _ _ _ (KL.out.below E10.out.1) (KM.out.below E10.out.1)).mono ?_
          rintro e x11 ⟨la11, ln11, lc11, ha11, hn11, hc11, rfl, k11, j11, hb, _, _⟩
          have E11 : Hid (Env w _ _ _ _ x11) := E10.out.below hb
          have H11 : Hid (Hold A1 L x11) := H10.out.below hb
          have O11 : Hid (Hold A2 [(lo, hi)] x11) := O10.out.below hb
          have K11 : Hid (KS x11 la11 ln11 lc11 _) := k11
          have J11 : Hid (KS x11 ha11 hn11 hc11 _) := j11
          clear hb k11 j11 E10 H10 O10
          go_wp2_with fail
          refine (asks_any _ _ _ _ _ _ _ _ _ _ _ O11.out K11.out J11.out).mono ?_
          rintro e x12 ⟨rfl, hb⟩
          rw [(one_holds (lo, hi) zm CL.out CH.out).1]
          have E12 : Hid (Env w _ _ _ _ x12) := E11.out.below hb
          have H12 : Hid (Hold A1 L x12) := H11.out.below hb
          have O12 : Hid (Hold A2 [(lo, hi)] x12) := O11.out.below hb
          clear hb E11 H11 O11 K11 J11
          obtain ⟨-, -, -, -, -, s4, s5⟩ := E12.out
          go_wp2_with fail
          refine (range_any _ _ _ _ _ _ _ _ _ (KM.out.below E12.out.1) (KH.out.below E12.out.1)).mono ?_
          rintro e x13 ⟨la13, ln13, lc13, ha13, hn13, hc13, rfl, k13, j13, hb, _, _⟩
          have E13 : Hid (Env w _ _ _ _ x13) := E12.out.below hb
          have H13 : Hid (Hold A1 L x13) := H12.out.below hb
          have O13 : Hid (Hold A2 [(lo, hi)] x13) := O12.out.below hb
          have K13 : Hid (KS x13 la13 ln13 lc13 _) := k13
          have J13 : Hid (KS x13 ha13 hn13 hc13 _) := j13
          clear hb k13 j13 E12 H12 O12
          go_wp2_with fail
          refine (asks_any _ _ _ _ _ _ _ _ _ _ _ O13.out K13.out J13.out).mono ?_
          rintro e x14 ⟨rfl, hb⟩
          rw [(one_holds (lo, hi) zm CL.out CH.out).2]
          have E14 : Hid (Env w _ _ _ _ x14) := E13.out.below hb
          have H14 : Hid (Hold A1 L x14) := H13.out.below hb
          have O14 : Hid (Hold A2 [(lo, hi)] x14) := O13.out.below hb
          clear hb E13 H13 O13 K13 J13
          go_wp2
          go_ret
          exact ⟨rfl, E14.out.1⟩
        | false =>
          have HW2 : Hid (whole = false) := by have := HW.out; rw [hp1, Bool.false_and] at this; exact this
          have hw2 := HW2.out
          subst hw2
          clear hp1 HW HW2
          obtain ⟨-, -, -, s2, s3, -⟩ := E8.out
          go_wp2_with fail
          refine (range_any _ _ _ _ _ _ _ _ _ (KL.out.below E8.out.1) (KM.out.below E8.out.1)).mono ?_
          rintro e x9 ⟨la9, ln9, lc9, ha9, hn9, hc9, rfl, k9, j9, hb, _, _⟩
          have E9 : Hid (Env w _ _ _ _ x9) := E8.out.below hb
          have H9 : Hid (Hold A1 L x9) := H8.out.below hb
          have O9 : Hid (Hold A2 [(lo, hi)] x9) := O8.out.below hb
          have K9 : Hid (KS x9 la9 ln9 lc9 _) := k9
          have J9 : Hid (KS x9 ha9 hn9 hc9 _) := j9
          clear hb k9 j9 E8 H8 O8
          go_wp2_with fail
          refine (asks_any _ _ _ _ _ _ _ _ _ _ _ O9.out K9.out J9.out).mono ?_
          rintro e x10 ⟨rfl, hb⟩
          rw [(one_holds (lo, hi) zm CL.out CH.out).1]
          have E10 : Hid (Env w _ _ _ _ x10) := E9.out.below hb
          have H10 : Hid (Hold A1 L x10) := H9.out.below hb
          have O10 : Hid (Hold A2 [(lo, hi)] x10) := O9.out.below hb
          clear hb E9 H9 O9 K9 J9
          obtain ⟨-, -, -, -, -, s4, s5⟩ := E10.out
          go_wp2_with fail
          refine (range_any _ _ _ _ _ _ _ _ _ (KM.out.below E10.out.1) (KH.out.below E10.out.1)).mono ?_
          rintro e x11 ⟨la11, ln11, lc11, ha11, hn11, hc11, rfl, k11, j11, hb, _, _⟩
          have E11 : Hid (Env w _ _ _ _ x11) := E10.out.below hb
          have H11 : Hid (Hold A1 L x11) := H10.out.below hb
          have O11 : Hid (Hold A2 [(lo, hi)] x11) := O10.out.below hb
          have K11 : Hid (KS x11 la11 ln11 lc11 _) := k11
          have J11 : Hid (KS x11 ha11 hn11 hc11 _) := j11
          clear hb k11 j11 E10 H10 O10
          go_wp2_with fail
          refine (asks_any _ _ _ _ _ _ _ _ _ _ _ O11.out K11.out J11.out).mono ?_
          rintro e x12 ⟨rfl, hb⟩
          rw [(one_holds (lo, hi) zm CL.out CH.out).2]
          have E12 : Hid (Env w _ _ _ _ x12) := E11.out.below hb
          have H12 : Hid (Hold A1 L x12) := H11.out.below hb
          have O12 : Hid (Hold A2 [(lo, hi)] x12) := O11.out.below hb
          clear hb E11 H11 O11 K11 J11
          go_wp2
          go_ret
          exact ⟨rfl, E12.out.1⟩
end Go.Proofs.Qxb6616471a
