import Derived.Test.Qxb6617693aW5
import Derived.Laws.CopyOwn
namespace Go.Proofs.Qxb6617693a
open Go.RowKit

theorem ofInt_wrap (z : Int) : BitVec.ofInt 64 (IntKind.i64.wrap z) = BitVec.ofInt 64 z := by
  apply BitVec.eq_of_toNat_eq
  rw [BitVec.toNat_ofInt, BitVec.toNat_ofInt, IntKind.wrap_i64]
  congr 1
  omega

/-- A number with its last bit turned is another number. -/
theorem xor_apart (x : Int) : (x == bits .xor .i64 x 1) = false := by
  rw [beq_eq_false_iff_ne]
  intro h
  have h2 : BitVec.ofInt 64 x = BitVec.ofInt 64 x ^^^ 1#64 := by
    have h3 := congrArg (BitVec.ofInt 64) h
    have h5 : bits .xor .i64 x 1 = IntKind.i64.wrap ((BitVec.ofInt 64 x ^^^ BitVec.ofInt 64 1).toNat : Int) := rfl
    rw [h5, ofInt_wrap, BitVec.ofInt_natCast, BitVec.ofNat_toNat] at h3
    simpa using h3
  have h4 : (1#64 : BitVec 64) = 0#64 := by
    have := congrArg (fun y => BitVec.ofInt 64 x ^^^ y) h2
    simp only [BitVec.xor_self] at this
    rw [← BitVec.xor_assoc, BitVec.xor_self, BitVec.zero_xor] at this
    exact this.symm
  exact absurd h4 (by decide)

theorem eq23 (w : World) (a : Option Addr) (n c n' c' : Nat) : (binOp .eql 23 (.slice a n c) (.slice none n' c')).run Try.prog w = .ok (.bool a.isNone) w := Lib.run_eql_slice_nil w 23 5 a n c n' c' Try.underlying23
theorem ne23 (w : World) (a : Option Addr) (n c n' c' : Nat) : (binOp .neq 23 (.slice a n c) (.slice none n' c')).run Try.prog w = .ok (.bool (!a.isNone)) w := run_neq_slice_nil_any w 23 5 a n c n' c' Try.underlying23
theorem eq26 (w : World) (a : Option Addr) (n c n' c' : Nat) : (binOp .eql 26 (.slice a n c) (.slice none n' c')).run Try.prog w = .ok (.bool a.isNone) w := Lib.run_eql_slice_nil w 26 37 a n c n' c' Try.underlying26

/-- Own steps, in one form for nil and for a row. -/
theorem toStored_one (ao : Option Addr) (n c : Nat) (F : Nat → Stp) (w : World) (hnn : n ≤ 65536) (h : SS w ao n F) :
    Calls Try.prog 6 #[.slice ao n c] w fun e w' => ∃ oa oc, e = .returned (.slice oa n oc) ∧ oa.isNone = ao.isNone ∧ SS w' oa n F ∧ Below w.heap.size w w' := by
  refine (toStored_any ao n c F w hnn h).mono ?_
  rintro e w' ⟨hb, ⟨rfl, rfl, rfl⟩ | ⟨g, cap, hs, rfl, hg, ho⟩⟩
  · exact ⟨none, 0, rfl, rfl, fun i hi => absurd hi (by omega), hb⟩
  · refine ⟨_, cap, rfl, ?_, ho.ss, hb⟩
    cases ao with
    | none => cases hs
    | some x => rfl

/-- The round's box. -/
def RB (M : Nat) (v0 v1 : Value) (x2 x3 x4 x5 : Int) (W : World) : Prop :=
  W.cell? ⟨M, 0, none⟩ = some v0 ∧ W.cell? ⟨M, 1, none⟩ = some v1 ∧ W.cell? ⟨M, 2, none⟩ = some (.int .i64 x2) ∧ W.cell? ⟨M, 3, none⟩ = some (.int .i64 x3) ∧ W.cell? ⟨M, 4, none⟩ = some (.int .i64 x4) ∧ W.cell? ⟨M, 5, none⟩ = some (.int .i64 x5)
theorem RB.below {W w1 : World} {M : Nat} {v0 v1 : Value} {x2 x3 x4 x5 : Int} (h : RB M v0 v1 x2 x3 x4 x5 W) (hb : Below W.heap.size W w1) : RB M v0 v1 x2 x3 x4 x5 w1 := by
  obtain ⟨h0, h1, h2, h3, h4, h5⟩ := h
  exact ⟨cell_later hb h0, cell_later hb h1, cell_later hb h2, cell_later hb h3, cell_later hb h4, cell_later hb h5⟩
theorem RB.start (w : World) (v0 v1 : Value) (x2 x3 x4 x5 : Int) : RB w.heap.size v0 v1 x2 x3 x4 x5 (w.alloc (.cells #[v0, v1, .int .i64 x2, .int .i64 x3, .int .i64 x4, .int .i64 x5] 31)) :=
  ⟨by simp, by simp, by simp, by simp, by simp, by simp⟩

set_option maxRecDepth 100000 in
set_option maxHeartbeats 2000000 in
theorem lawA (ao : Option Addr) (n c : Nat) (after bs bz pt latest : Int) (F : Nat → Stp) (w : World) (hnn : n ≤ maxLen) (h : SS w ao n F) (hr : ∀ i, i < n → RT w (F i)) :
    Calls Try.prog 3 #[.slice ao n c, .slice none 0 0, .int .i64 after, .int .i64 bs, .int .i64 bz, .int .i64 pt, .int .i64 latest] w fun e w' => e = .returned (.bool true) ∧ Below w.heap.size w w' := by
  have q23 := eq23
  have r23 := ne23
  have q26 := eq26
  have HF : Hid (SS w ao n F) := h
  have HT : Hid (∀ i, i < n → RT w (F i)) := hr
  have HNN : Hid (n ≤ maxLen) := hnn
  clear h hr hnn
  go_enter Try.func3, Try.ntmps3
  go_wp2_with fail
  refine (zzBytes_any ao n c _ _ _ _ _ _ _ _ F _ HNN.out HF.out).mono ?_
  rintro e w' ⟨⟨r, rfl⟩, hw⟩
  subst hw
  cases r with
  | false =>
    go_wp2
    go_ret
    exact ⟨rfl, Below.refl _ _⟩
  | true =>
  by_cases h16 : (65536 : Int) < (n : Int)
  · go_wp2
    go_ret
    exact ⟨rfl, Below.refl _ _⟩
  go_wp2_with fail
  refine (roundBytes_any ao n c _ _ _ F _ (by omega) HF.out).mono ?_
  rintro e w1 ⟨⟨t, rfl⟩, hb⟩
  have B1 : Hid (Below w'.heap.size w' w1) := hb
  clear hb
  by_cases ht : 1048576 < t
  · go_wp2
    go_ret
    exact ⟨rfl, B1.out⟩
  go_wp2_with fail
  refine (toStored_one ao n c F _ (by omega) (HF.out.below B1.out)).mono ?_
  rintro e w2 ⟨oa, oc, rfl, hoa, hos, hb⟩
  have B2 : Hid (Below w'.heap.size w' w2) := step_below B1.out hb
  have HO : Hid (SS w2 oa n F) := hos
  have HN : Hid (oa.isNone = ao.isNone) := hoa
  clear hb hos hoa B1
  go_wp2_with fail
  refine (make_any oa n oc none 0 0 after bs bz pt _).mono ?_
  rintro e w3 ⟨rfl, hb⟩
  have B3 : Hid (Below w2.heap.size w2 w3) := hb
  clear hb
  go_wp2_with fail
  refine (steps_plain oa n oc none 0 0 after bs bz pt after _ (by simp)).mono ?_
  rintro e w4 ⟨rfl, hb⟩
  have B4 : Hid (Below w2.heap.size w2 w4) := step_below (step_below B3.out (below_alloc _ _)) hb
  have R4 : Hid (RB w3.heap.size _ _ _ _ _ _ w4) := (RB.start w3 (.slice oa n oc) (.slice none 0 0) after bs bz pt).below hb
  clear hb B3
  obtain ⟨s0, s1, s2, s3, s4, s5⟩ := R4.out
  go_wp2_with fail
  refine (steps_plain oa n oc none 0 0 after bs bz pt _ _ (by simp)).mono ?_
  rintro e w5 ⟨rfl, hb⟩
  have B5 : Hid (Below w2.heap.size w2 w5) := step_below B4.out hb
  have R5 : Hid (RB w3.heap.size _ _ _ _ _ _ w5) := R4.out.below hb
  clear hb B4 R4 s0 s1 s2 s3 s4 s5
  obtain ⟨s0, s1, s2, s3, s4, s5⟩ := R5.out
  go_wp2_with fail
  refine (steps_plain oa n oc none 0 0 after bs bz pt latest _ (by simp)).mono ?_
  rintro e w6 ⟨rfl, hb⟩
  have B6 : Hid (Below w2.heap.size w2 w6) := step_below B5.out hb
  clear hb B5 R5 s0 s1 s2 s3 s4 s5
  go_wp2_with fail
  refine (sameSteps_any oa ao n oc c F _ (by omega) (HO.out.below B6.out) (HF.out.below (step_below B2.out B6.out)) (fun i hi => (HT.out i hi).below (step_below B2.out B6.out)) HN.out).mono ?_
  rintro e w7 ⟨rfl, hb⟩
  have B7 : Hid (Below w2.heap.size w2 w7) := step_below B6.out hb
  clear hb B6
  go_wp2_with fail
  refine (sameSteps_any oa ao n oc c F _ (by omega) (HO.out.below B7.out) (HF.out.below (step_below B2.out B7.out)) (fun i hi => (HT.out i hi).below (step_below B2.out B7.out)) HN.out).mono ?_
  rintro e w8 ⟨rfl, hb⟩
  have B8 : Hid (Below w2.heap.size w2 w8) := step_below B7.out hb
  clear hb B7
  cases hl : (latest == after) with
  | true =>
    go_wp2_with fail
    refine (sameStoredSteps_any oa oa n oc oc F _ (by omega) (HO.out.below B8.out) (HO.out.below B8.out) (fun i hi => (HT.out i hi).below (step_below B2.out B8.out)) rfl).mono ?_
    rintro e w9 ⟨rfl, hb⟩
    have B9 : Hid (Below w'.heap.size w' w9) := step_below (step_below B2.out B8.out) hb
    go_wp2
    go_ret
    exact ⟨rfl, B9.out⟩
  | false =>
    go_wp2_with fail
    refine (sameSteps_any oa ao n oc c F _ (by omega) (HO.out.below B8.out) (HF.out.below (step_below B2.out B8.out)) (fun i hi => (HT.out i hi).below (step_below B2.out B8.out)) HN.out).mono ?_
    rintro e w9 ⟨rfl, hb⟩
    have B9 : Hid (Below w'.heap.size w' w9) := step_below (step_below B2.out B8.out) hb
    go_wp2
    go_ret
    exact ⟨rfl, B9.out⟩
end Go.Proofs.Qxb6617693a
