import Derived.Test.Qxb6617693aW7
namespace Go.Proofs.Qxb6617693a
open Go.RowKit

set_option maxRecDepth 100000 in
set_option maxHeartbeats 2000000 in
theorem lawC (ao : Option Addr) (n c : Nat) (px : Addr) (pn pc : Nat) (zs : List Int) (after bs bz pt latest : Int) (F : Nat → Stp) (w : World) (hnn : n ≤ maxLen) (h : SS w ao n F) (hr : ∀ i, i < n → RT w (F i)) (hp : PB w px pn zs) (hl : (after == latest) = false) :
    Calls Try.prog 3 #[.slice ao n c, .slice (some px) pn pc, .int .i64 after, .int .i64 bs, .int .i64 bz, .int .i64 pt, .int .i64 latest] w fun e w' => e = .returned (.bool true) ∧ Below w.heap.size w w' := by
  have q23 := eq23
  have r23 := ne23
  have q26 := eq26
  have HF : Hid (SS w ao n F) := h
  have HT : Hid (∀ i, i < n → RT w (F i)) := hr
  have HNN : Hid (n ≤ maxLen) := hnn
  clear h hr hnn
  have HP : Hid (PB w px pn zs) := hp
  clear hp
  have HL : Hid ((after == latest) = false) := hl
  have hl' : (latest == after) = false := by rw [← hl]; exact Bool.beq_comm
  clear hl
  go_enter Try.func3, Try.ntmps3
  go_wp2_with fail
  refine (zzBytes_any ao n c _ _ _ _ _ _ _ _ F _ HNN.out HF.out).mono ?_
  rintro e w' ⟨⟨r, rfl⟩, hw⟩
  subst hw
  cases r with
  | false =>
    go_wp2
    go_ret
    exact ⟨rfl, Below.refl _ _⟩
  | true =>
  by_cases h16 : (65536 : Int) < (n : Int)
  · go_wp2
    go_ret
    exact ⟨rfl, Below.refl _ _⟩
  by_cases hpn : (1048576 : Int) < (pn : Int)
  · go_wp2
    go_ret
    exact ⟨rfl, Below.refl _ _⟩
  go_wp2_with fail
  refine (roundBytes_any ao n c _ _ _ F _ (by omega) HF.out).mono ?_
  rintro e w1 ⟨⟨t, rfl⟩, hb⟩
  have B1 : Hid (Below w'.heap.size w' w1) := hb
  clear hb
  by_cases ht : 1048576 < t
  · go_wp2
    go_ret
    exact ⟨rfl, B1.out⟩
  by_cases hn0 : n = 0
  · subst hn0
    go_wp2
    go_ret
    exact ⟨rfl, B1.out⟩
  have hn0' : ((n : Int) == 0) = false := by simp; omega
  have hmk := run_make_row' (P := Try.prog) 23 5 (.int .u8 0) 1 Try.underlying23 Try.info5 rfl .i64 .i64 pn (by omega) (by omega)
  have HZ : Hid (zs.length = pn) := HP.out.1
  go_wp2_with (refine wpList_copy_splice rfl (.tmp 58) (.tmp 59) 23 23 rfl 5 Try.underlying23 Try.size5 _ _ _ _ _ _ rfl rfl w1.heap.size 0 (madeCells #[.int .u8 0] pn).toList 5 ?g1 (u8s zs) ?g2 ?g3 ?g4 ?g5 w1.heap.size w1 ?g6 ?g7 ?next)
  case g1 => exact new_block _ _ _
  case g2 => rw [u8s_length, HZ.out]; exact (Nat.min_self pn).symm
  case g3 =>
    intro hpos j v hj
    have hjn : j < pn := by have := (List.getElem?_eq_some_iff.1 hj).1; rw [u8s_length, HZ.out] at this; exact this
    obtain ⟨b, off, e, hc⟩ := (HP.out.below B1.out).2 j hjn
    subst e
    have hv : v = .int .u8 (zs.getD j 0) := u8s_at hj
    rw [hv, Addr.add_lit]
    exact cell_later (below_alloc _ _) hc
  case g4 => rw [u8s_length, HZ.out, toList_madeCells_one]; simp
  case g5 => exact u8s_one _
  case g6 => exact below_alloc _ _
  case g7 => exact Nat.le_refl _
  intro w2 hrow hbel
  have B2 : Hid (Below w'.heap.size w' w2) := step_below B1.out hbel
  obtain ⟨P, hP⟩ : ∃ P, P = w1.heap.size := ⟨_, rfl⟩
  have HR : Hid (RD w2 ⟨some ⟨P, 0, none⟩, pn, pn⟩) := by
    refine ⟨by show pn ≤ maxLen; unfold maxLen; omega, fun i hi => ⟨P, 0, zs.getD i 0, rfl, ?_⟩⟩
    have hr := hrow.out
    rw [splice_full _ _ (by rw [u8s_length, HZ.out, toList_madeCells_one]; simp)] at hr
    rw [hP]
    exact cell_of_row hr (u8s_get zs i (by rw [HZ.out]; exact hi))
  rw [← hP]
  clear hrow hbel hmk HP HZ B1 hP
  clear hn0'
  obtain ⟨m, rfl⟩ : ∃ m, n = m + 1 := ⟨n - 1, by omega⟩
  clear hn0
  go_wp2_with fail
  refine (toStored_one ao (m + 1) c F _ (by omega) (HF.out.below B2.out)).mono ?_
  rintro e w3 ⟨oa, oc, rfl, hoa, hos, hb⟩
  have B3 : Hid (Below w2.heap.size w2 w3) := hb
  obtain ⟨ad, rfl⟩ : ∃ ad, oa = some ad := by
    cases oa with
    | none => exact absurd (hos.nil rfl) (by omega)
    | some ad => exact ⟨ad, rfl⟩
  have HO : Hid (SS w3 (some ad) (m + 1) F) := hos
  have HN : Hid ((some ad : Option Addr).isNone = ao.isNone) := hoa
  clear hb hos hoa
  go_wp2_with fail
  refine (make_any (some ad) (m + 1) oc (some ⟨P, 0, none⟩) pn pn after bs bz pt _).mono ?_
  rintro e w4 ⟨rfl, hb⟩
  have B4 : Hid (Below w3.heap.size w3 w4) := hb
  clear hb
  go_wp2_with fail
  refine (steps_patched ad (m + 1) oc (some ⟨P, 0, none⟩) pn pn after bs bz pt F _ rfl (by omega) (by omega) (HO.out.below (step_below B4.out (below_alloc _ _)))).mono ?_
  rintro e w5 ⟨g1, cap1, rfl, hg1, ho1, hb⟩
  have B5 : Hid (Below w3.heap.size w3 w5) := step_below (step_below B4.out (below_alloc _ _)) hb
  have R5 : Hid (RB w4.heap.size _ _ _ _ _ _ w5) := (RB.start w4 (.slice (some ad) (m + 1) oc) (.slice (some ⟨P, 0, none⟩) pn pn) after bs bz pt).below hb
  have O5 : Hid (Own w5 g1 (m + 1) (lastPatched F (m + 1) ⟨some ⟨P, 0, none⟩, pn, pn⟩ bs)) := ho1
  clear hb B4 ho1
  obtain ⟨s0, s1, s2, s3, s4, s5⟩ := R5.out
  go_wp2_with fail
  refine (steps_plain (some ad) (m + 1) oc (some ⟨P, 0, none⟩) pn pn after bs bz pt _ _ (by rw [xor_apart]; rfl)).mono ?_
  rintro e w6 ⟨rfl, hb⟩
  have B6 : Hid (Below w3.heap.size w3 w6) := step_below B5.out hb
  have R6 : Hid (RB w4.heap.size _ _ _ _ _ _ w6) := R5.out.below hb
  have O6 : Hid (Own w6 g1 (m + 1) (lastPatched F (m + 1) ⟨some ⟨P, 0, none⟩, pn, pn⟩ bs)) := O5.out.below hb
  clear hb B5 R5 O5 s0 s1 s2 s3 s4 s5
  obtain ⟨s0, s1, s2, s3, s4, s5⟩ := R6.out
  go_wp2_with fail
  refine (steps_plain (some ad) (m + 1) oc (some ⟨P, 0, none⟩) pn pn after bs bz pt latest _ (by rw [HL.out]; rfl)).mono ?_
  rintro e w7 ⟨rfl, hb⟩
  have B7 : Hid (Below w3.heap.size w3 w7) := step_below B6.out hb
  have O7 : Hid (Own w7 g1 (m + 1) (lastPatched F (m + 1) ⟨some ⟨P, 0, none⟩, pn, pn⟩ bs)) := O6.out.below hb
  clear hb B6 R6 O6 s0 s1 s2 s3 s4 s5
  have A7 : Hid (Below w'.heap.size w' w7) := step_below (step_below B2.out B3.out) B7.out
  go_wp2_with fail
  refine (sameSteps_any (some ad) ao (m + 1) oc c F _ (by omega) (HO.out.below B7.out) (HF.out.below A7.out) (fun i hi => (HT.out i hi).below A7.out) HN.out).mono ?_
  rintro e w8 ⟨rfl, hb⟩
  have B8 : Hid (Below w7.heap.size w7 w8) := hb
  have HR7 : Hid (RD w7 ⟨some ⟨P, 0, none⟩, pn, pn⟩) := HR.out.below (step_below B3.out B7.out)
  have HO7 : Hid (SS w7 (some ad) (m + 1) F) := HO.out.below B7.out
  clear hb HR HO B2 B3 B7
  go_wp2
  go_loopw [22] (fun i wr => ∃ j : Nat, j ≤ m ∧ i = .int .i64 j ∧ Hid (Below w7.heap.size w7 wr)) (fun i _ => m - (intOf i).toNat)
  case atStart => exact ⟨0, Nat.zero_le _, rfl, B8⟩
  case round =>
    clear B8
    obtain ⟨j, hj, rfl, hbel⟩ := hrel
    by_cases hlt : j < m
    · obtain ⟨_, _, e1, x1⟩ := (O7.out.below hbel.out).ss.eight j (by omega)
      obtain ⟨b0, o0, e2, x2⟩ := (HF.out.below (step_below A7.out hbel.out)).eight j (by omega)
      cases e1
      subst e2
      rw [last_old (by omega), Nat.zero_add] at x1
      obtain ⟨a0, a1, a2, a3, a4, a5, a6, a7⟩ := x1
      obtain ⟨c0, c1, c2, c3, c4, c5, c6, c7⟩ := x2
      have HTj : Hid (∀ W, Below w7.heap.size w7 W → RT W (F j)) := fun W hb => (HT.out j (by omega)).below (step_below A7.out hb)
      generalize F j = fj at *
      have hjm : (j : Int) < (m : Int) := by omega
      have hjn : (j : Int) < (m : Int) + 1 := by omega
      go_wp2
      go_region_held3 (fun W => W.cell? ⟨g1, j * 8, none⟩ = some (.int .i64 fj.no) ∧ W.cell? ⟨g1, j * 8 + 1, none⟩ = some (.string fj.node) ∧ W.cell? ⟨g1, j * 8 + 2, none⟩ = some (.slice fj.delta.a fj.delta.n fj.delta.c) ∧ W.cell? ⟨g1, j * 8 + 3, none⟩ = some (.slice fj.state.a fj.state.n fj.state.c) ∧ W.cell? ⟨g1, j * 8 + 4, none⟩ = some (.slice fj.patch.a fj.patch.n fj.patch.c) ∧ W.cell? ⟨g1, j * 8 + 5, none⟩ = some (.int .i64 fj.base) ∧ W.cell? ⟨g1, j * 8 + 6, none⟩ = some (.slice fj.pend.a fj.pend.n fj.pend.c) ∧ W.cell? ⟨g1, j * 8 + 7, none⟩ = some (.slice fj.keys.a fj.keys.n fj.keys.c) ∧
          W.cell? ⟨b0, o0 + j * 8, none⟩ = some (.int .i64 fj.no) ∧ W.cell? ⟨b0, o0 + j * 8 + 1, none⟩ = some (.string fj.node) ∧ W.cell? ⟨b0, o0 + j * 8 + 2, none⟩ = some (.slice fj.delta.a fj.delta.n fj.delta.c) ∧ W.cell? ⟨b0, o0 + j * 8 + 3, none⟩ = some (.slice fj.state.a fj.state.n fj.state.c) ∧ W.cell? ⟨b0, o0 + j * 8 + 4, none⟩ = some (.slice fj.patch.a fj.patch.n fj.patch.c) ∧ W.cell? ⟨b0, o0 + j * 8 + 5, none⟩ = some (.int .i64 fj.base) ∧ W.cell? ⟨b0, o0 + j * 8 + 6, none⟩ = some (.slice fj.pend.a fj.pend.n fj.pend.c) ∧ W.cell? ⟨b0, o0 + j * 8 + 7, none⟩ = some (.slice fj.keys.a fj.keys.n fj.keys.c))
        (first | (simp [*]; done) | exact keep16 (by assumption) (by assumption))
        (first
          | (go_at_call 10; refine (sameStep_any fj _ ?_).mono ?_; exact HTj.out _ hbel.out.drew; rintro e y1 ⟨rfl, hbx⟩))
      have B9 : Hid (Below w7.heap.size w7 y1) := step_below hbel.out (undrew hbx)
      clear hbel hbx
      go_wp2
      go_roundw
      case rel => first | exact ⟨j + 1, by omega, by go_num, B9⟩ | ((repeat apply Exists.intro); exact ⟨⟨j + 1, by omega, by go_num, B9⟩, rfl⟩)
      case measure => simp [intOf]; omega
    · obtain rfl : j = m := by omega
      obtain ⟨_, _, e1, x1⟩ := (O7.out.below hbel.out).ss.eight j (by omega)
      obtain ⟨b0, o0, e2, x2⟩ := (HF.out.below (step_below A7.out hbel.out)).eight j (by omega)
      cases e1
      subst e2
      rw [last_last, Nat.zero_add] at x1
      obtain ⟨a0, a1, a2, a3, a4, a5, a6, a7⟩ := x1
      obtain ⟨c0, c1, c2, c3, c4, c5, c6, c7⟩ := x2
      have HTm : Hid (∀ W, Below w7.heap.size w7 W → RT W (F j)) := fun W hb => (HT.out j (by omega)).below (step_below A7.out hb)
      simp only at a0 a1 a2 a3 a4 a5 a6 a7
      obtain ⟨fm, HFM⟩ : ∃ fm, Hid (fm = F j) := ⟨_, rfl⟩
      rw [← HFM.out] at a0 a1 a2 a6 a7 c0 c1 c2 c3 c4 c5 c6 c7 HTm
      have hb0 : b0 < wr.heap.size := World.block_lt_of_cell? _ _ c0
      have hg1' : g1 < wr.heap.size := World.block_lt_of_cell? _ _ a0
      have hjj : (j : Int) < (j : Int) + 1 := by omega
      clear hlt hj
      go_wp2_with fail
      refine (sameBytes_any fm.delta _ (HTm.out _ (step_below hbel.out (b2 _ _ _))).1).mono ?_
      rintro e y1 ⟨rfl, q1, rfl⟩
      go_wp2_with fail
      refine (sameBytes_any fm.pend _ (HTm.out _ (step_below hbel.out (below_drewN (b2 _ _ _) _))).2.2.2.1).mono ?_
      rintro e y2 ⟨rfl, q2, rfl⟩
      go_wp2_with fail
      refine (sameBytes_any fm.keys _ (HTm.out _ (step_below hbel.out (below_drewN (b2 _ _ _) _))).2.2.2.2).mono ?_
      rintro e y3 ⟨rfl, q3, rfl⟩
      go_wp2_with fail
      refine (sameBytes_any ⟨some ⟨P, 0, none⟩, pn, pn⟩ _ (HR7.out.below (step_below hbel.out (below_drewN (b2 _ _ _) _)))).mono ?_
      rintro e y4 ⟨rfl, q4, rfl⟩
      have D4 : Hid (∀ o o' q, Below w7.heap.size w7 (((wr.alloc o).alloc o').drewN q)) := fun o o' q => step_below hbel.out (below_drewN (b2 _ _ _) _)
      clear hbel
      go_wp2_with fail
      refine (sameSteps_any (some ad) (some ⟨b0, o0, none⟩) (j + 1) oc c F _ (by omega) (HO7.out.below (D4.out _ _ _)) (HF.out.below (step_below A7.out (D4.out _ _ _))) (fun i hi => (HT.out i hi).below (step_below A7.out (D4.out _ _ _))) HN.out).mono ?_
      rintro e y5 ⟨rfl, hb5⟩
      go_wp2
      go_ret
      exact ⟨rfl, step_below (step_below A7.out (D4.out _ _ _)) hb5⟩
end Go.Proofs.Qxb6617693a
