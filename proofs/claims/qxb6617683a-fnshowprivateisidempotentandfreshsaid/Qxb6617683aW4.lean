import Derived.Test.Qxb6617683aW3
import Derived.Deep.RegionHeld3
namespace Go.Proofs.Qxb6617683a
open Go.RowKit

theorem FS.nil {w : World} {ao : Option Addr} {n : Nat} {F : Nat → Fld} (h : FS w ao n F) (e : ao = none) : n = 0 := by
  by_cases h0 : 0 < n
  · obtain ⟨b, off, e', _⟩ := h 0 h0
    rw [e] at e'
    cases e'
  · omega

theorem FS.drewN {w : World} {ao : Option Addr} {n : Nat} {F : Nat → Fld} (h : FS w ao n F) (q : Nat) : FS (w.drewN q) ao n F := h

theorem show_nil (w : World) : Calls Try.prog 8 #[.slice none 0 0] w fun e w' => e = .returned (.slice none 0 0) ∧ Below w.heap.size w w' := by
  refine (show_any none 0 0 (fun _ => fz) w (by omega) (fun i hi => absurd hi (by omega)) (fun _ => rfl)).mono ?_
  rintro e w' ⟨hb, ⟨_, rfl⟩ | ⟨g, cap, e, _⟩⟩
  · exact ⟨rfl, hb⟩
  · cases e

theorem show_some (ad : Addr) (n c : Nat) (F : Nat → Fld) (w : World) (hnn : n ≤ 65536) (h : FS w (some ad) n F) :
    Calls Try.prog 8 #[.slice (some ad) n c] w fun e w' => ∃ g cap, e = .returned (.slice (some ⟨g, 0, none⟩) n cap) ∧ w.heap.size ≤ g ∧ Own w' g n (fun i => shown (F i)) ∧ Below w.heap.size w w' := by
  refine (show_any (some ad) n c F w hnn h (fun e => by cases e)).mono ?_
  rintro e w' ⟨hb, ⟨e, _⟩ | ⟨g, cap, _, he, hg, ho⟩⟩
  · cases e
  · exact ⟨g, cap, he, hg, ho, hb⟩

theorem keep8 {W w1 : World} {a0 a1 a2 a3 a4 a5 a6 a7 : Addr} {v0 v1 v2 v3 v4 v5 v6 v7 : Value} (hb : Below W.heap.size W w1)
    (h : W.cell? a0 = some v0 ∧ W.cell? a1 = some v1 ∧ W.cell? a2 = some v2 ∧ W.cell? a3 = some v3 ∧ W.cell? a4 = some v4 ∧ W.cell? a5 = some v5 ∧ W.cell? a6 = some v6 ∧ W.cell? a7 = some v7) :
    w1.cell? a0 = some v0 ∧ w1.cell? a1 = some v1 ∧ w1.cell? a2 = some v2 ∧ w1.cell? a3 = some v3 ∧ w1.cell? a4 = some v4 ∧ w1.cell? a5 = some v5 ∧ w1.cell? a6 = some v6 ∧ w1.cell? a7 = some v7 := by
  obtain ⟨h0, h1, h2, h3, h4, h5, h6, h7⟩ := h
  exact ⟨cell_later hb h0, cell_later hb h1, cell_later hb h2, cell_later hb h3, cell_later hb h4, cell_later hb h5, cell_later hb h6, cell_later hb h7⟩

theorem undrew {W w1 : World} (hb : Below W.drew.heap.size W.drew w1) : Below W.heap.size W w1 := ⟨hb.os, hb.tape, hb.output, hb.size, hb.block⟩

set_option maxHeartbeats 1000000 in
theorem law1_any (ao : Option Addr) (n c : Nat) (k : Int) (F : Nat → Fld) (w : World) (hnn : n ≤ maxLen) (h : FS w ao n F) :
    Calls Try.prog 3 #[.slice ao n c, .int .i64 k] w fun e w' => e = .returned (.bool true) ∧ Below w.heap.size w w' := by
  have HF : Hid (FS w ao n F) := h
  clear h
  go_enter Try.func3, Try.ntmps3
  go_wp2_with fail
  refine (zzBytesA_any ao n c k F _ hnn HF.out).mono ?_
  rintro e w' ⟨⟨r, rfl⟩, hw⟩
  subst hw
  cases r with
  | false =>
    go_wp2
    go_ret
    exact ⟨rfl, Below.refl _ _⟩
  | true =>
  by_cases h16 : (65536 : Int) < (n : Int)
  · go_wp2
    go_ret
    exact ⟨rfl, Below.refl _ _⟩
  go_wp2_with fail
  refine (fits_any ao n c F _ (by omega) HF.out).mono ?_
  rintro e w1 ⟨⟨r, rfl⟩, q, hq⟩
  have B1 : Hid (Below w'.heap.size w' w1) := by rw [hq]; exact below_drewN (Below.refl _ _) _
  clear hq
  cases r with
  | false =>
    go_wp2
    go_ret
    exact ⟨rfl, B1.out⟩
  | true =>
  by_cases hk0 : k < 0
  · go_wp2
    go_ret
    exact ⟨rfl, B1.out⟩
  by_cases hkn : (n : Int) < k
  · go_wp2
    go_ret
    exact ⟨rfl, B1.out⟩
  obtain ⟨m, rfl⟩ := Int.eq_ofNat_of_zero_le (show 0 ≤ k by omega)
  have hmn : m ≤ n := by omega
  clear hk0 hkn
  go_wp2_with fail
  refine (toListing_any ao n c F _ (by omega) (HF.out.below B1.out)).mono ?_
  rintro e w2 ⟨hb, hr⟩
  have B2 : Hid (Below w'.heap.size w' w2) := step_below B1.out hb
  clear hb
  rcases hr with ⟨rfl, rfl⟩ | ⟨g, rfl, hg, ho⟩
  · obtain rfl : m = 0 := by omega
    go_wp2_with fail
    refine (show_nil _).mono ?_
    rintro e w3 ⟨rfl, hb⟩
    have B3 : Hid (Below w'.heap.size w' w3) := step_below B2.out hb
    clear hb B2
    go_wp2_with fail
    refine (show_nil _).mono ?_
    rintro e w4 ⟨rfl, hb⟩
    have B4 : Hid (Below w'.heap.size w' w4) := step_below B3.out hb
    clear hb B3
    go_wp2_with fail
    refine (show_nil _).mono ?_
    rintro e w5 ⟨rfl, hb⟩
    have B5 : Hid (Below w'.heap.size w' w5) := step_below B4.out hb
    clear hb B4
    go_wp2
    go_loop [9] (fun i => i = .int .i64 0) (fun _ => 0)
    case atStart => rfl
    case round =>
      subst hrel
      go_wp2
      go_loop [10] (fun i => i = .int .i64 0) (fun _ => 0)
      case atStart => rfl
      case round =>
        subst hrel
        go_wp2
        go_ret
        exact ⟨rfl, B5.out⟩
  have O2 : Hid (Own w2 g n F) := ho
  have hg2 : Hid (g < w2.heap.size) := by obtain ⟨N, f, hr, _⟩ := ho; exact hr.lt
  clear ho
  go_wp2_with fail
  refine (show_some ⟨g, 0, none⟩ n n F _ (by omega) O2.out.fs).mono ?_
  rintro e w3 ⟨g3, cap3, rfl, hg3, ho3, hb⟩
  have B3 : Hid (Below w'.heap.size w' w3) := step_below B2.out hb
  have O3 : Hid (Own w3 g n F) := O2.out.below hb
  have P3 : Hid (Own w3 g3 n (fun i => shown (F i))) := ho3
  clear hb B2 O2 ho3
  go_wp2_with fail
  refine (show_some ⟨g, 0, none⟩ m n F _ (by omega) (fun i hi => O3.out.fs i (by omega))).mono ?_
  rintro e w4 ⟨g4, cap4, rfl, hg4, ho4, hb⟩
  have B4 : Hid (Below w'.heap.size w' w4) := step_below B3.out hb
  have O4 : Hid (Own w4 g n F) := O3.out.below hb
  have P4 : Hid (Own w4 g3 n (fun i => shown (F i))) := P3.out.below hb
  have Q4 : Hid (Own w4 g4 m (fun i => shown (F i))) := ho4
  clear hb B3 O3 P3 ho4
  rcases Nat.eq_or_lt_of_le hmn with rfl | hlt
  · go_wp2_with fail
    refine (show_some ⟨g, 0, none⟩ 0 0 F _ (by omega) (fun i hi => absurd hi (by omega))).mono ?_
    rintro e w5 ⟨g5, cap5, rfl, hg5, ho5, hb⟩
    have B5 : Hid (Below w'.heap.size w' w5) := step_below B4.out hb
    have P5 : Hid (Own w5 g3 m (fun i => shown (F i))) := P4.out.below hb
    have Q5 : Hid (Own w5 g4 m (fun i => shown (F i))) := Q4.out.below hb
    clear hb B4 O4 P4 Q4 ho5
    go_wp2
    go_loopw [9] (fun i wr => ∃ j : Nat, j ≤ m ∧ i = .int .i64 j ∧ Hid (Below w5.heap.size w5 wr)) (fun i _ => m - (intOf i).toNat)
    case atStart => exact ⟨0, Nat.zero_le _, rfl, Below.refl _ _⟩
    case round =>
      obtain ⟨j, hj, rfl, hbel⟩ := hrel
      by_cases hlt : j < m
      · obtain ⟨_, _, e1, a0, a1, a2, a3⟩ := (P5.out.below hbel.out).fs.four j (by omega)
        obtain ⟨_, _, e2, c0, c1, c2, c3⟩ := (Q5.out.below hbel.out).fs.four j (by omega)
        cases e1
        cases e2
        simp only [Nat.zero_add] at a0 a1 a2 a3 c0 c1 c2 c3
        generalize shown (F j) = fj at *
        have hjm : (j : Int) < (m : Int) := by omega
        go_wp2
        go_region_held3 (fun W => W.cell? ⟨g3, j * 4, none⟩ = some (.string fj.n) ∧ W.cell? ⟨g3, j * 4 + 1, none⟩ = some (.string fj.v) ∧ W.cell? ⟨g3, j * 4 + 2, none⟩ = some (.bool fj.c) ∧ W.cell? ⟨g3, j * 4 + 3, none⟩ = some (.string fj.p) ∧
        W.cell? ⟨g4, j * 4, none⟩ = some (.string fj.n) ∧ W.cell? ⟨g4, j * 4 + 1, none⟩ = some (.string fj.v) ∧ W.cell? ⟨g4, j * 4 + 2, none⟩ = some (.bool fj.c) ∧ W.cell? ⟨g4, j * 4 + 3, none⟩ = some (.string fj.p))
          (first | (simp [*]; done) | exact keep8 (by assumption) (by assumption))
          (first
            | (go_at_call 9; refine (same_any fj _).mono ?_; rintro e x1 ⟨rfl, hbx⟩))
        have B6 : Hid (Below w5.heap.size w5 x1) := step_below hbel.out (undrew hbx)
        clear hbel hbx
        go_wp2
        go_roundw
        case rel => first | exact ⟨j + 1, by omega, by go_num, B6⟩ | ((repeat apply Exists.intro); exact ⟨⟨j + 1, by omega, by go_num, B6⟩, rfl⟩)
        case measure => simp [intOf]; omega
      · have B6 : Hid (Below w'.heap.size w' wr) := step_below B5.out hbel.out
        go_wp2
        go_loop [10] (fun i => i = .int .i64 0) (fun _ => 0)
        case atStart => rfl
        case round =>
          subst hrel
          go_wp2
          go_ret
          exact ⟨rfl, B6.out⟩
  · obtain ⟨d, rfl⟩ : ∃ d, n = m + d := ⟨n - m, by omega⟩
    have hd : 0 < d := by omega
    clear hlt
    go_wp2_with fail
    refine (show_some ⟨g, m * 4, none⟩ d _ (fun i => F (m + i)) _ (by omega) (fun i hi => ?_)).mono ?_
    · obtain ⟨_, _, e1, hc⟩ := O4.out.fs (m + i) (by omega)
      cases e1
      refine ⟨g, m * 4, rfl, fun r hr => ?_⟩
      have := hc r hr
      rwa [show 0 + (m + i) * 4 + r = m * 4 + i * 4 + r by omega] at this
    rintro e w5 ⟨g5, cap5, rfl, hg5, ho5, hb⟩
    have B5 : Hid (Below w'.heap.size w' w5) := step_below B4.out hb
    have P5 : Hid (Own w5 g3 (m + d) (fun i => shown (F i))) := P4.out.below hb
    have Q5 : Hid (Own w5 g4 m (fun i => shown (F i))) := Q4.out.below hb
    have R5 : Hid (Own w5 g5 d (fun i => shown (F (m + i)))) := ho5
    clear hb B4 O4 P4 Q4 ho5
    have hdd : (m : Int) + (d : Int) - (m : Int) = (d : Int) := by omega
    go_wp2
    go_loopw [9] (fun i wr => ∃ j : Nat, j ≤ m ∧ i = .int .i64 j ∧ Hid (Below w5.heap.size w5 wr)) (fun i _ => m - (intOf i).toNat)
    case atStart => exact ⟨0, Nat.zero_le _, rfl, Below.refl _ _⟩
    case round =>
      obtain ⟨j, hj, rfl, hbel⟩ := hrel
      by_cases hlt : j < m
      · obtain ⟨_, _, e1, a0, a1, a2, a3⟩ := (P5.out.below hbel.out).fs.four j (by omega)
        obtain ⟨_, _, e2, c0, c1, c2, c3⟩ := (Q5.out.below hbel.out).fs.four j (by omega)
        cases e1
        cases e2
        simp only [Nat.zero_add] at a0 a1 a2 a3 c0 c1 c2 c3
        generalize shown (F j) = fj at *
        have hjm : (j : Int) < (m : Int) := by omega
        have hjn : (j : Int) < (m : Int) + (d : Int) := by omega
        go_wp2
        go_region_held3 (fun W => W.cell? ⟨g3, j * 4, none⟩ = some (.string fj.n) ∧ W.cell? ⟨g3, j * 4 + 1, none⟩ = some (.string fj.v) ∧ W.cell? ⟨g3, j * 4 + 2, none⟩ = some (.bool fj.c) ∧ W.cell? ⟨g3, j * 4 + 3, none⟩ = some (.string fj.p) ∧
        W.cell? ⟨g4, j * 4, none⟩ = some (.string fj.n) ∧ W.cell? ⟨g4, j * 4 + 1, none⟩ = some (.string fj.v) ∧ W.cell? ⟨g4, j * 4 + 2, none⟩ = some (.bool fj.c) ∧ W.cell? ⟨g4, j * 4 + 3, none⟩ = some (.string fj.p))
          (first | (simp [*]; done) | exact keep8 (by assumption) (by assumption))
          (first
            | (go_at_call 9; refine (same_any fj _).mono ?_; rintro e x1 ⟨rfl, hbx⟩))
        have B6 : Hid (Below w5.heap.size w5 x1) := step_below hbel.out (undrew hbx)
        clear hbel hbx
        go_wp2
        go_roundw
        case rel => first | exact ⟨j + 1, by omega, by go_num, B6⟩ | ((repeat apply Exists.intro); exact ⟨⟨j + 1, by omega, by go_num, B6⟩, rfl⟩)
        case measure => simp [intOf]; omega
      · obtain ⟨wo, rfl⟩ : ∃ wo : World, wo = wr := ⟨_, rfl⟩
        go_wp2
        go_loopw [10] (fun i wr => ∃ j : Nat, j ≤ d ∧ i = .int .i64 j ∧ Hid (Below w5.heap.size w5 wr)) (fun i _ => d - (intOf i).toNat)
        case atStart => exact ⟨0, Nat.zero_le _, rfl, hbel⟩
        case round =>
          clear hbel
          obtain ⟨j, hj, rfl, hbel⟩ := hrel
          by_cases hlt : j < d
          · obtain ⟨_, _, e1, a0, a1, a2, a3⟩ := (P5.out.below hbel.out).fs.four (m + j) (by omega)
            obtain ⟨_, _, e2, c0, c1, c2, c3⟩ := (R5.out.below hbel.out).fs.four j hlt
            cases e1
            cases e2
            simp only [Nat.zero_add] at a0 a1 a2 a3 c0 c1 c2 c3
            generalize shown (F (m + j)) = fj at *
            have hjd : (j : Int) < (d : Int) := by omega
            have hjn : (m : Int) + (j : Int) < (m : Int) + (d : Int) := by omega
            have hj0 : (0 : Int) ≤ (m : Int) + (j : Int) := by omega
            have hjw : IntKind.i64.wrap ((m : Int) + (j : Int)) = (m : Int) + (j : Int) := by rw [IntKind.wrap_i64]; omega
            have hjt : ((m : Int) + (j : Int)).toNat = m + j := by omega
            go_wp2
            go_region_held3 (fun W => W.cell? ⟨g3, (m + j) * 4, none⟩ = some (.string fj.n) ∧ W.cell? ⟨g3, (m + j) * 4 + 1, none⟩ = some (.string fj.v) ∧ W.cell? ⟨g3, (m + j) * 4 + 2, none⟩ = some (.bool fj.c) ∧ W.cell? ⟨g3, (m + j) * 4 + 3, none⟩ = some (.string fj.p) ∧
              W.cell? ⟨g5, j * 4, none⟩ = some (.string fj.n) ∧ W.cell? ⟨g5, j * 4 + 1, none⟩ = some (.string fj.v) ∧ W.cell? ⟨g5, j * 4 + 2, none⟩ = some (.bool fj.c) ∧ W.cell? ⟨g5, j * 4 + 3, none⟩ = some (.string fj.p))
              (first | (simp [*]; done) | exact keep8 (by assumption) (by assumption))
              (first
                | (go_at_call 9; refine (same_any fj _).mono ?_; rintro e x1 ⟨rfl, hbx⟩))
            have B6 : Hid (Below w5.heap.size w5 x1) := step_below hbel.out (undrew hbx)
            clear hbel hbx
            go_wp2
            go_roundw
            case rel => first | exact ⟨j + 1, by omega, by go_num, B6⟩ | ((repeat apply Exists.intro); exact ⟨⟨j + 1, by omega, by go_num, B6⟩, rfl⟩)
            case measure => simp [intOf]; omega
          · have B6 : Hid (Below w'.heap.size w' wr) := step_below B5.out hbel.out
            obtain ⟨_, _, e1, a0, a1, a2, a3⟩ := (P5.out.below hbel.out).fs.four m (by omega)
            obtain ⟨b0, o0, e2, c0, c1, c2, c3⟩ := (HF.out.below B6.out).four m (by omega)
            cases e1
            subst e2
            simp only [Nat.zero_add] at a0 a1 a2 a3
            generalize F m = fm at *
            have hmd : (m : Int) < (m : Int) + (d : Int) := by omega
            have hjd : ¬ (j : Int) < (d : Int) := by omega
            go_wp2
            go_region_held3 (fun W => W.cell? ⟨g3, m * 4, none⟩ = some (.string (shown fm).n) ∧ W.cell? ⟨g3, m * 4 + 1, none⟩ = some (.string (shown fm).v) ∧ W.cell? ⟨g3, m * 4 + 2, none⟩ = some (.bool (shown fm).c) ∧ W.cell? ⟨g3, m * 4 + 3, none⟩ = some (.string (shown fm).p) ∧
                W.cell? ⟨b0, o0 + m * 4, none⟩ = some (.string fm.n) ∧ W.cell? ⟨b0, o0 + m * 4 + 1, none⟩ = some (.string fm.v) ∧ W.cell? ⟨b0, o0 + m * 4 + 2, none⟩ = some (.bool fm.c) ∧ W.cell? ⟨b0, o0 + m * 4 + 3, none⟩ = some (.string fm.p))
              (first | (simp [*]; done) | exact keep8 (by assumption) (by assumption))
              (first
                | (go_at_call 10; refine (shownOf_any fm _).mono ?_; rintro e x1 ⟨rfl, hbx⟩)
                | (go_at_call 9; refine (same_any (shown fm) _).mono ?_; rintro e x2 ⟨rfl, hby⟩))
            have B7 : Hid (Below w'.heap.size w' x2) := step_below (step_below B6.out (undrew hbx)) hby
            go_wp2
            go_ret
            exact ⟨rfl, B7.out⟩
end Go.Proofs.Qxb6617683a
