import Derived.Test.Qxb6617683aW4
namespace Go.Proofs.Qxb6617683a
open Go.RowKit

/-- To show what is shown changes nothing. -/
theorem shown_shown (f : Fld) : shown (shown f) = shown f := by
  unfold shown
  by_cases h : f.p.toList.isEmpty = true
  · rw [if_pos h, if_pos h]
  · rw [if_neg h, if_neg h]


/-- The bound on total length said yes: so every length is within it. -/
def RetF (n : Nat) (F : Nat → Fld) (e : Ending) : Prop := ∃ r : Bool, e = .returned (.bool r) ∧ (r = true → ∀ i, i < n → (F i).n.size ≤ 1048576 ∧ (F i).v.size ≤ 1048576 ∧ (F i).p.size ≤ 1048576)

theorem RetF.no (n : Nat) (F : Nat → Fld) : RetF n F (.returned (.bool false)) := ⟨false, rfl, fun h => by cases h⟩

set_option maxHeartbeats 400000 in
theorem zzBytesC_any (ao : Option Addr) (n c : Nat) (k : Int) (F : Nat → Fld) (w : World) (hnn : n ≤ maxLen) (h : FS w ao n F) :
    Calls Try.prog 11 #[.slice ao n c, .int .i64 k] w fun e w' => RetF n F e ∧ w' = w := by
  unfold maxLen at hnn
  have no := RetF.no n F
  by_cases hbig : 1048576 < (n : Int)
  · go_enter Try.func11, Try.ntmps11
    go_wp2
    go_ret
    exact ⟨no, rfl⟩
  go_enter Try.func11, Try.ntmps11
  go_wp2
  go_loop [5, 6] (fun t i => ∃ (k : Nat) (t' : Int), k ≤ n ∧ i = .int .i64 k ∧ t = .int .i64 t' ∧ 0 ≤ t' ∧ t' ≤ 1048576 ∧ Hid (∀ i, i < k → (F i).n.size ≤ 1048576 ∧ (F i).v.size ≤ 1048576 ∧ (F i).p.size ≤ 1048576)) (fun _ i => n - (intOf i).toNat)
  case atStart => exact ⟨0, n, Nat.zero_le _, rfl, rfl, by omega, by omega, fun i hi => absurd hi (by omega)⟩
  case round =>
    obtain ⟨k, t', hk, rfl, rfl, ht0, ht1, hall⟩ := hrel
    by_cases hlt : k < n
    · obtain ⟨b, off, rfl, g0, g1, g2, g3⟩ := h.four k hlt
      clear h g2
      have HN : Hid ((F k).n.size ≤ 1048576 → (F k).v.size ≤ 1048576 → (F k).p.size ≤ 1048576 → Hid (∀ i, i < k + 1 → (F i).n.size ≤ 1048576 ∧ (F i).v.size ≤ 1048576 ∧ (F i).p.size ≤ 1048576)) := fun a1 a2 a3 i hi => by
        by_cases hik : i < k
        · exact hall.out i hik
        · obtain rfl : i = k := by omega
          exact ⟨a1, a2, a3⟩
      generalize F k = fk at *
      go_wp2
      iterate 6
        · go_ret
          exact ⟨no, rfl⟩
      go_round
      case rel => exact ⟨k + 1, _, by omega, by go_num, rfl, by omega, by omega, HN.out (by omega) (by omega) (by omega)⟩
      case measure => simp [intOf]; omega
    · have yes : RetF n F (.returned (.bool true)) := ⟨true, rfl, fun _ i hi => hall.out i (by omega)⟩
      go_wp2
      go_ret
      exact ⟨yes, rfl⟩

theorem shown_sizes {f : Fld} (h : f.n.size ≤ 1048576 ∧ f.v.size ≤ 1048576 ∧ f.p.size ≤ 1048576) : (shown f).n.size ≤ 1048576 ∧ (shown f).v.size ≤ 1048576 ∧ (shown f).p.size ≤ 1048576 := by
  unfold shown
  split
  · exact h
  · exact ⟨h.1, h.2.2, h.2.2⟩

set_option maxHeartbeats 1000000 in
theorem law2_any (ao : Option Addr) (n c : Nat) (k : Int) (F : Nat → Fld) (w : World) (hnn : n ≤ maxLen) (h : FS w ao n F) :
    Calls Try.prog 4 #[.slice ao n c, .int .i64 k] w fun e w' => e = .returned (.bool true) ∧ Below w.heap.size w w' := by
  have HF : Hid (FS w ao n F) := h
  clear h
  go_enter Try.func4, Try.ntmps4
  go_wp2_with fail
  refine (zzBytesC_any ao n c k F _ hnn HF.out).mono ?_
  rintro e w' ⟨⟨r, rfl, hfit⟩, hw⟩
  subst hw
  cases r with
  | false =>
    go_wp2
    go_ret
    exact ⟨rfl, Below.refl _ _⟩
  | true =>
  have HFIT : Hid (∀ i, i < n → (F i).n.size ≤ 1048576 ∧ (F i).v.size ≤ 1048576 ∧ (F i).p.size ≤ 1048576) := hfit rfl
  clear hfit
  by_cases h16 : (65536 : Int) < (n : Int)
  · go_wp2
    go_ret
    exact ⟨rfl, Below.refl _ _⟩
  go_wp2_with fail
  refine (fits_any ao n c F _ (by omega) HF.out).mono ?_
  rintro e w1 ⟨⟨r, rfl⟩, q, hq⟩
  have B1 : Hid (Below w'.heap.size w' w1) := by rw [hq]; exact below_drewN (Below.refl _ _) _
  clear hq
  cases r with
  | false =>
    go_wp2
    go_ret
    exact ⟨rfl, B1.out⟩
  | true =>
  by_cases hk0 : k < 0
  · go_wp2
    go_ret
    exact ⟨rfl, B1.out⟩
  by_cases hkn : (n : Int) < k
  · go_wp2
    go_ret
    exact ⟨rfl, B1.out⟩
  obtain ⟨m, rfl⟩ := Int.eq_ofNat_of_zero_le (show 0 ≤ k by omega)
  have hmn : m ≤ n := by omega
  clear hk0 hkn
  go_wp2_with fail
  refine (toListing_any ao n c F _ (by omega) (HF.out.below B1.out)).mono ?_
  rintro e w2 ⟨hb, hr⟩
  have B2 : Hid (Below w'.heap.size w' w2) := step_below B1.out hb
  clear hb
  rcases hr with ⟨rfl, rfl⟩ | ⟨g, rfl, hg, ho⟩
  · obtain rfl : m = 0 := by omega
    go_wp2_with fail
    refine (show_nil _).mono ?_
    rintro e w3 ⟨rfl, hb⟩
    have B3 : Hid (Below w'.heap.size w' w3) := step_below B2.out hb
    clear hb B2
    go_wp2_with fail
    refine (show_nil _).mono ?_
    rintro e w4 ⟨rfl, hb⟩
    have B4 : Hid (Below w'.heap.size w' w4) := step_below B3.out hb
    clear hb B3
    go_wp2
    go_loop [8] (fun i => i = .int .i64 0) (fun _ => 0)
    case atStart => rfl
    case round =>
      subst hrel
      go_wp2
      go_ret
      exact ⟨rfl, B4.out⟩
  have O2 : Hid (Own w2 g n F) := ho
  have hg2 : Hid (g < w2.heap.size) := by obtain ⟨N, f, hr, _⟩ := ho; exact hr.lt
  have hg0 : Hid (w'.heap.size ≤ g) := Nat.le_trans B1.out.size hg
  clear ho
  go_wp2_with fail
  refine (show_some ⟨g, 0, none⟩ n n F _ (by omega) O2.out.fs).mono ?_
  rintro e w3 ⟨g3, cap3, rfl, hg3, ho3, hb⟩
  have B3 : Hid (Below w'.heap.size w' w3) := step_below B2.out hb
  have O3 : Hid (Own w3 g n F) := O2.out.below hb
  have P3 : Hid (Own w3 g3 n (fun i => shown (F i))) := ho3
  have HG : Hid (g ≠ g3 ∧ w'.heap.size ≤ g3) := ⟨by have := hg2.out; omega, by have := B2.out.size; omega⟩
  clear hb B2 O2 ho3
  go_wp2_with fail
  refine (show_some ⟨g3, 0, none⟩ n cap3 (fun i => shown (F i)) _ (by omega) P3.out.fs).mono ?_
  rintro e w5 ⟨g5, cap5, rfl, hg5, ho5, hb⟩
  have B5 : Hid (Below w'.heap.size w' w5) := step_below B3.out hb
  have O5 : Hid (Own w5 g n F) := O3.out.below hb
  have P5 : Hid (Own w5 g3 n (fun i => shown (F i))) := P3.out.below hb
  have Q5 : Hid (Own w5 g5 n (fun i => shown (F i))) := own_congr ho5 (fun i _ => shown_shown _)
  clear hb B3 O3 P3 ho5
  go_wp2
  go_loopw [8] (fun i wr => ∃ j : Nat, j ≤ n ∧ i = .int .i64 j ∧ Hid (Below w5.heap.size w5 wr)) (fun i _ => n - (intOf i).toNat)
  case atStart => exact ⟨0, Nat.zero_le _, rfl, Below.refl _ _⟩
  case round =>
    obtain ⟨j, hj, rfl, hbel⟩ := hrel
    by_cases hlt : j < n
    · obtain ⟨_, _, e1, a0, a1, a2, a3⟩ := (Q5.out.below hbel.out).fs.four j (by omega)
      obtain ⟨_, _, e2, c0, c1, c2, c3⟩ := (P5.out.below hbel.out).fs.four j (by omega)
      cases e1
      cases e2
      simp only [Nat.zero_add] at a0 a1 a2 a3 c0 c1 c2 c3
      generalize shown (F j) = fj at *
      have hjn : (j : Int) < (n : Int) := by omega
      go_wp2
      go_region_held3 (fun W => W.cell? ⟨g5, j * 4, none⟩ = some (.string fj.n) ∧ W.cell? ⟨g5, j * 4 + 1, none⟩ = some (.string fj.v) ∧ W.cell? ⟨g5, j * 4 + 2, none⟩ = some (.bool fj.c) ∧ W.cell? ⟨g5, j * 4 + 3, none⟩ = some (.string fj.p) ∧
          W.cell? ⟨g3, j * 4, none⟩ = some (.string fj.n) ∧ W.cell? ⟨g3, j * 4 + 1, none⟩ = some (.string fj.v) ∧ W.cell? ⟨g3, j * 4 + 2, none⟩ = some (.bool fj.c) ∧ W.cell? ⟨g3, j * 4 + 3, none⟩ = some (.string fj.p))
        (first | (simp [*]; done) | exact keep8 (by assumption) (by assumption))
        (first
          | (go_at_call 9; refine (same_any fj _).mono ?_; rintro e x1 ⟨rfl, hbx⟩))
      have B6 : Hid (Below w5.heap.size w5 x1) := step_below hbel.out (undrew hbx)
      clear hbel hbx
      go_wp2
      go_roundw
      case rel => first | exact ⟨j + 1, by omega, by go_num, B6⟩ | ((repeat apply Exists.intro); exact ⟨⟨j + 1, by omega, by go_num, B6⟩, rfl⟩)
      case measure => simp [intOf]; omega
    · have B6 : Hid (Below w'.heap.size w' wr) := step_below B5.out hbel.out
      have hjn : ¬ (j : Int) < (n : Int) := by omega
      by_cases hmn2 : (m : Int) < (n : Int)
      · obtain ⟨_, _, e1, a0, a1, a2, a3⟩ := (P5.out.below hbel.out).fs.four m (by omega)
        obtain ⟨b0, o0, e2, c0, c1, c2, c3⟩ := (HF.out.below B6.out).four m (by omega)
        cases e1
        subst e2
        simp only [Nat.zero_add] at a0 a1 a2 a3
        obtain ⟨fm, HFM⟩ : ∃ fm, Hid (fm = F m) := ⟨_, rfl⟩
        rw [← HFM.out] at a0 a1 a2 a3 c0 c1 c2 c3
        go_wp2
        go_region_held3 (fun W => W.cell? ⟨g3, m * 4, none⟩ = some (.string (shown fm).n) ∧ W.cell? ⟨g3, m * 4 + 1, none⟩ = some (.string (shown fm).v) ∧ W.cell? ⟨g3, m * 4 + 2, none⟩ = some (.bool (shown fm).c) ∧ W.cell? ⟨g3, m * 4 + 3, none⟩ = some (.string (shown fm).p) ∧
            W.cell? ⟨b0, o0 + m * 4, none⟩ = some (.string fm.n) ∧ W.cell? ⟨b0, o0 + m * 4 + 1, none⟩ = some (.string fm.v) ∧ W.cell? ⟨b0, o0 + m * 4 + 2, none⟩ = some (.bool fm.c) ∧ W.cell? ⟨b0, o0 + m * 4 + 3, none⟩ = some (.string fm.p))
          (first | (simp [*]; done) | exact keep8 (by assumption) (by assumption))
          (first
            | (go_at_call 10; refine (shownOf_any fm _).mono ?_; rintro e x1 ⟨rfl, hbx⟩)
            | (go_at_call 9; refine (same_any (shown fm) _).mono ?_; rintro e x2 ⟨rfl, hby⟩))
        have B7 : Hid (Below w5.heap.size w5 x2) := step_below (step_below hbel.out (undrew hbx)) hby
        have B8 : Hid (Below w'.heap.size w' x2) := step_below B5.out B7.out
        obtain ⟨z0, y0⟩ := (P5.out.below B7.out).place m (by omega) 0 (by omega)
        obtain ⟨z1, y1⟩ := (P5.out.below B7.out).place m (by omega) 1 (by omega)
        obtain ⟨z2, y2⟩ := (P5.out.below B7.out).place m (by omega) 2 (by omega)
        obtain ⟨z3, y3⟩ := (P5.out.below B7.out).place m (by omega) 3 (by omega)
        rw [← HFM.out] at z0 z1 z2 z3
        simp only [Nat.add_zero, Fld.cell] at z0 y0 z1 z2 z3
        obtain ⟨_, _, e3, d0, d1, d2, d3⟩ := (O5.out.below B7.out).fs.four m (by omega)
        cases e3
        simp only [Nat.zero_add] at d0 d1 d2 d3
        rw [← HFM.out] at d0 d1 d2 d3
        obtain ⟨_, _, e4, f0, f1, f2, f3⟩ := (HF.out.below B8.out).four m (by omega)
        cases e4
        rw [← HFM.out] at f0 f1 f2 f3
        obtain ⟨l0, l1, l3⟩ := shown_sizes (HFIT.out m (by omega))
        rw [← HFM.out] at l0 l1 l3
        generalize shown fm = fs at *
        have s0 : fs.n.size + 1 ≤ 9223372036854775807 := by omega
        have s1 : fs.v.size + 1 ≤ 9223372036854775807 := by omega
        have s3 : fs.p.size + 1 ≤ 9223372036854775807 := by omega
        clear a0 a1 a2 a3 c0 c1 c2 c3 hbx hby hbel
        go_wp2
        obtain ⟨X, hX⟩ : ∃ X : World, X = ((((x2.setCell ⟨g3, m * 4 + 1, none⟩ (.string (fs.v ++ ⟨#[35]⟩))).setCell ⟨g3, m * 4, none⟩ (.string (fs.n ++ ⟨#[35]⟩))).setCell ⟨g3, m * 4 + 3, none⟩ (.string (fs.p ++ ⟨#[35]⟩))).setCell ⟨g3, m * 4 + 2, none⟩ (.bool !fs.c)) := ⟨_, rfl⟩
        rw [← hX]
        have KX : ∀ (b o : Nat) (v : Value), b ≠ g3 → x2.cell? ⟨b, o, none⟩ = some v → X.cell? ⟨b, o, none⟩ = some v := fun b o v hb hc => by
          rw [hX, World.cell?_setCell_other _ _ _ _ (fun e => hb (congrArg Addr.block e).symm), World.cell?_setCell_other _ _ _ _ (fun e => hb (congrArg Addr.block e).symm), World.cell?_setCell_other _ _ _ _ (fun e => hb (congrArg Addr.block e).symm), World.cell?_setCell_other _ _ _ _ (fun e => hb (congrArg Addr.block e).symm)]
          exact hc
        have BX : Hid (Below w'.heap.size w' X) := by
          rw [hX]
          exact (((B8.out.setCell HG.out.2 _).setCell HG.out.2 _).setCell HG.out.2 _).setCell HG.out.2 _
        have hb0 : b0 ≠ g3 := by
          obtain ⟨_, _, e5, h5⟩ := HF.out m (by omega)
          cases e5
          have := World.block_lt_of_cell? _ _ (h5 0 (by omega))
          have := HG.out.2
          simp at *
          omega
        have d0' := KX _ _ _ HG.out.1 d0
        have d1' := KX _ _ _ HG.out.1 d1
        have d2' := KX _ _ _ HG.out.1 d2
        have d3' := KX _ _ _ HG.out.1 d3
        have f0' := KX _ _ _ hb0 f0
        have f1' := KX _ _ _ hb0 f1
        have f2' := KX _ _ _ hb0 f2
        have f3' := KX _ _ _ hb0 f3
        clear hX KX d0 d1 d2 d3 f0 f1 f2 f3 z0 z1 z2 z3 y0 y1 y2 y3
        go_region_held3 (fun W => W.cell? ⟨g, m * 4, none⟩ = some (.string fm.n) ∧ W.cell? ⟨g, m * 4 + 1, none⟩ = some (.string fm.v) ∧ W.cell? ⟨g, m * 4 + 2, none⟩ = some (.bool fm.c) ∧ W.cell? ⟨g, m * 4 + 3, none⟩ = some (.string fm.p) ∧
            W.cell? ⟨b0, o0 + m * 4, none⟩ = some (.string fm.n) ∧ W.cell? ⟨b0, o0 + m * 4 + 1, none⟩ = some (.string fm.v) ∧ W.cell? ⟨b0, o0 + m * 4 + 2, none⟩ = some (.bool fm.c) ∧ W.cell? ⟨b0, o0 + m * 4 + 3, none⟩ = some (.string fm.p))
          (first | (simp [*]; done) | exact keep8 (by assumption) (by assumption))
          (first
            | (go_at_call 12; refine (sameAsIn_any fm _).mono ?_; rintro e x3 ⟨rfl, hbz⟩))
        have B9 : Hid (Below w'.heap.size w' x3) := step_below BX.out (undrew hbz)
        go_wp2
        go_ret
        exact ⟨rfl, B9.out⟩
      · go_wp2
        go_ret
        exact ⟨rfl, B6.out⟩
end Go.Proofs.Qxb6617683a
