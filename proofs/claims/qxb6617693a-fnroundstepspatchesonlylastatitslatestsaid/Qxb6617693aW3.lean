import Derived.Test.Qxb6617693aW2
import Derived.Deep.RegionHeld3
namespace Go.Proofs.Qxb6617693a
open Go.RowKit

theorem keep16 {W w1 : World} {a0 a1 a2 a3 a4 a5 a6 a7 a8 a9 a10 a11 a12 a13 a14 a15 : Addr} {v0 v1 v2 v3 v4 v5 v6 v7 v8 v9 v10 v11 v12 v13 v14 v15 : Value} (hb : Below W.heap.size W w1)
    (h : W.cell? a0 = some v0 ∧ W.cell? a1 = some v1 ∧ W.cell? a2 = some v2 ∧ W.cell? a3 = some v3 ∧ W.cell? a4 = some v4 ∧ W.cell? a5 = some v5 ∧ W.cell? a6 = some v6 ∧ W.cell? a7 = some v7 ∧ W.cell? a8 = some v8 ∧ W.cell? a9 = some v9 ∧ W.cell? a10 = some v10 ∧ W.cell? a11 = some v11 ∧ W.cell? a12 = some v12 ∧ W.cell? a13 = some v13 ∧ W.cell? a14 = some v14 ∧ W.cell? a15 = some v15) :
    w1.cell? a0 = some v0 ∧ w1.cell? a1 = some v1 ∧ w1.cell? a2 = some v2 ∧ w1.cell? a3 = some v3 ∧ w1.cell? a4 = some v4 ∧ w1.cell? a5 = some v5 ∧ w1.cell? a6 = some v6 ∧ w1.cell? a7 = some v7 ∧ w1.cell? a8 = some v8 ∧ w1.cell? a9 = some v9 ∧ w1.cell? a10 = some v10 ∧ w1.cell? a11 = some v11 ∧ w1.cell? a12 = some v12 ∧ w1.cell? a13 = some v13 ∧ w1.cell? a14 = some v14 ∧ w1.cell? a15 = some v15 := by
  obtain ⟨h0, h1, h2, h3, h4, h5, h6, h7, h8, h9, h10, h11, h12, h13, h14, h15⟩ := h
  exact ⟨cell_later hb h0, cell_later hb h1, cell_later hb h2, cell_later hb h3, cell_later hb h4, cell_later hb h5, cell_later hb h6, cell_later hb h7, cell_later hb h8, cell_later hb h9, cell_later hb h10, cell_later hb h11, cell_later hb h12, cell_later hb h13, cell_later hb h14, cell_later hb h15⟩

set_option maxHeartbeats 1000000 in
theorem sameSteps_any (ao bo : Option Addr) (n c c' : Nat) (F : Nat → Stp) (w : World) (hnn : n ≤ 65536) (h : SS w ao n F) (h' : SS w bo n F) (hr : ∀ i, i < n → RT w (F i)) (hnil : ao.isNone = bo.isNone) :
    Calls Try.prog 9 #[.slice ao n c, .slice bo n c'] w fun e w' => e = .returned (.bool true) ∧ Below w.heap.size w w' := by
  have qa : ∀ (w : World) (a : Option Addr) (n c n' c' : Nat), (binOp .eql 26 (.slice a n c) (.slice none n' c')).run Try.prog w = .ok (.bool a.isNone) w := fun w a n c n' c' => Lib.run_eql_slice_nil w 26 37 a n c n' c' Try.underlying26
  have qb : ∀ (w : World) (a : Option Addr) (n c n' c' : Nat), (binOp .eql 22 (.slice a n c) (.slice none n' c')).run Try.prog w = .ok (.bool a.isNone) w := fun w a n c n' c' => Lib.run_eql_slice_nil w 22 38 a n c n' c' Try.underlying22
  have H1 : Hid (SS w ao n F) := h
  have H2 : Hid (SS w bo n F) := h'
  have H3 : Hid (∀ i, i < n → RT w (F i)) := hr
  clear h h' hr
  cases ao with
  | none =>
    obtain rfl := H1.out.nil rfl
    cases bo with
    | some x => cases hnil
    | none =>
      clear hnil
      go_enter Try.func9, Try.ntmps9
      go_wp2
      go_loop [5] (fun i => i = .int .i64 0) (fun _ => 0)
      case atStart => rfl
      case round =>
        subst hrel
        go_wp2
        go_ret
        exact ⟨rfl, Below.refl _ _⟩
  | some x =>
  cases bo with
  | none => cases hnil
  | some y =>
  clear hnil
  go_enter Try.func9, Try.ntmps9
  go_wp2
  go_loopw [5] (fun i wr => ∃ j : Nat, j ≤ n ∧ i = .int .i64 j ∧ Hid (Below w.heap.size w wr)) (fun i _ => n - (intOf i).toNat)
  case atStart => exact ⟨0, Nat.zero_le _, rfl, Below.refl _ _⟩
  case round =>
    obtain ⟨j, hj, rfl, hbel⟩ := hrel
    by_cases hlt : j < n
    · obtain ⟨ba, oa, e1, a0, a1, a2, a3, a4, a5, a6, a7⟩ := (H1.out.below hbel.out).eight j hlt
      obtain ⟨bb, ob, e2, c0, c1, c2, c3, c4, c5, c6, c7⟩ := (H2.out.below hbel.out).eight j hlt
      cases e1
      cases e2
      have HT : Hid (∀ W, Below w.heap.size w W → RT W (F j)) := fun W hb => (H3.out j hlt).below hb
      generalize F j = fj at *
      have hjn : (j : Int) < (n : Int) := by omega
      go_wp2
      go_region_held3 (fun W => W.cell? ⟨ba, oa + j * 8, none⟩ = some (.int .i64 fj.no) ∧ W.cell? ⟨ba, oa + j * 8 + 1, none⟩ = some (.string fj.node) ∧ W.cell? ⟨ba, oa + j * 8 + 2, none⟩ = some (.slice fj.delta.a fj.delta.n fj.delta.c) ∧ W.cell? ⟨ba, oa + j * 8 + 3, none⟩ = some (.slice fj.state.a fj.state.n fj.state.c) ∧ W.cell? ⟨ba, oa + j * 8 + 4, none⟩ = some (.slice fj.patch.a fj.patch.n fj.patch.c) ∧ W.cell? ⟨ba, oa + j * 8 + 5, none⟩ = some (.int .i64 fj.base) ∧ W.cell? ⟨ba, oa + j * 8 + 6, none⟩ = some (.slice fj.pend.a fj.pend.n fj.pend.c) ∧ W.cell? ⟨ba, oa + j * 8 + 7, none⟩ = some (.slice fj.keys.a fj.keys.n fj.keys.c) ∧
          W.cell? ⟨bb, ob + j * 8, none⟩ = some (.int .i64 fj.no) ∧ W.cell? ⟨bb, ob + j * 8 + 1, none⟩ = some (.string fj.node) ∧ W.cell? ⟨bb, ob + j * 8 + 2, none⟩ = some (.slice fj.delta.a fj.delta.n fj.delta.c) ∧ W.cell? ⟨bb, ob + j * 8 + 3, none⟩ = some (.slice fj.state.a fj.state.n fj.state.c) ∧ W.cell? ⟨bb, ob + j * 8 + 4, none⟩ = some (.slice fj.patch.a fj.patch.n fj.patch.c) ∧ W.cell? ⟨bb, ob + j * 8 + 5, none⟩ = some (.int .i64 fj.base) ∧ W.cell? ⟨bb, ob + j * 8 + 6, none⟩ = some (.slice fj.pend.a fj.pend.n fj.pend.c) ∧ W.cell? ⟨bb, ob + j * 8 + 7, none⟩ = some (.slice fj.keys.a fj.keys.n fj.keys.c))
        (first | (simp [*]; done) | exact keep16 (by assumption) (by assumption))
        (first
          | (go_at_call 10; refine (sameStep_any fj _ ?_).mono ?_; exact HT.out _ hbel.out.drew; rintro e x1 ⟨rfl, hbx⟩))
      have B6 : Hid (Below w.heap.size w x1) := step_below hbel.out (undrew hbx)
      clear hbel hbx
      go_wp2
      go_roundw
      case rel => first | exact ⟨j + 1, by omega, by go_num, B6⟩ | ((repeat apply Exists.intro); exact ⟨⟨j + 1, by omega, by go_num, B6⟩, rfl⟩)
      case measure => simp [intOf]; omega
    · go_wp2
      go_ret
      exact ⟨rfl, hbel.out⟩

set_option maxHeartbeats 1000000 in
theorem sameStoredSteps_any (ao bo : Option Addr) (n c c' : Nat) (F : Nat → Stp) (w : World) (hnn : n ≤ 65536) (h : SS w ao n F) (h' : SS w bo n F) (hr : ∀ i, i < n → RT w (F i)) (hnil : ao.isNone = bo.isNone) :
    Calls Try.prog 12 #[.slice ao n c, .slice bo n c'] w fun e w' => e = .returned (.bool true) ∧ Below w.heap.size w w' := by
  have qa : ∀ (w : World) (a : Option Addr) (n c n' c' : Nat), (binOp .eql 26 (.slice a n c) (.slice none n' c')).run Try.prog w = .ok (.bool a.isNone) w := fun w a n c n' c' => Lib.run_eql_slice_nil w 26 37 a n c n' c' Try.underlying26
  have qb : ∀ (w : World) (a : Option Addr) (n c n' c' : Nat), (binOp .eql 26 (.slice a n c) (.slice none n' c')).run Try.prog w = .ok (.bool a.isNone) w := fun w a n c n' c' => Lib.run_eql_slice_nil w 26 37 a n c n' c' Try.underlying26
  have H1 : Hid (SS w ao n F) := h
  have H2 : Hid (SS w bo n F) := h'
  have H3 : Hid (∀ i, i < n → RT w (F i)) := hr
  clear h h' hr
  cases ao with
  | none =>
    obtain rfl := H1.out.nil rfl
    cases bo with
    | some x => cases hnil
    | none =>
      clear hnil
      go_enter Try.func12, Try.ntmps12
      go_wp2
      go_loop [5] (fun i => i = .int .i64 0) (fun _ => 0)
      case atStart => rfl
      case round =>
        subst hrel
        go_wp2
        go_ret
        exact ⟨rfl, Below.refl _ _⟩
  | some x =>
  cases bo with
  | none => cases hnil
  | some y =>
  clear hnil
  go_enter Try.func12, Try.ntmps12
  go_wp2
  go_loopw [5] (fun i wr => ∃ j : Nat, j ≤ n ∧ i = .int .i64 j ∧ Hid (Below w.heap.size w wr)) (fun i _ => n - (intOf i).toNat)
  case atStart => exact ⟨0, Nat.zero_le _, rfl, Below.refl _ _⟩
  case round =>
    obtain ⟨j, hj, rfl, hbel⟩ := hrel
    by_cases hlt : j < n
    · obtain ⟨ba, oa, e1, a0, a1, a2, a3, a4, a5, a6, a7⟩ := (H1.out.below hbel.out).eight j hlt
      obtain ⟨bb, ob, e2, c0, c1, c2, c3, c4, c5, c6, c7⟩ := (H2.out.below hbel.out).eight j hlt
      cases e1
      cases e2
      have HT : Hid (∀ W, Below w.heap.size w W → RT W (F j)) := fun W hb => (H3.out j hlt).below hb
      generalize F j = fj at *
      have hjn : (j : Int) < (n : Int) := by omega
      go_wp2
      go_region_held3 (fun W => W.cell? ⟨ba, oa + j * 8, none⟩ = some (.int .i64 fj.no) ∧ W.cell? ⟨ba, oa + j * 8 + 1, none⟩ = some (.string fj.node) ∧ W.cell? ⟨ba, oa + j * 8 + 2, none⟩ = some (.slice fj.delta.a fj.delta.n fj.delta.c) ∧ W.cell? ⟨ba, oa + j * 8 + 3, none⟩ = some (.slice fj.state.a fj.state.n fj.state.c) ∧ W.cell? ⟨ba, oa + j * 8 + 4, none⟩ = some (.slice fj.patch.a fj.patch.n fj.patch.c) ∧ W.cell? ⟨ba, oa + j * 8 + 5, none⟩ = some (.int .i64 fj.base) ∧ W.cell? ⟨ba, oa + j * 8 + 6, none⟩ = some (.slice fj.pend.a fj.pend.n fj.pend.c) ∧ W.cell? ⟨ba, oa + j * 8 + 7, none⟩ = some (.slice fj.keys.a fj.keys.n fj.keys.c) ∧
          W.cell? ⟨bb, ob + j * 8, none⟩ = some (.int .i64 fj.no) ∧ W.cell? ⟨bb, ob + j * 8 + 1, none⟩ = some (.string fj.node) ∧ W.cell? ⟨bb, ob + j * 8 + 2, none⟩ = some (.slice fj.delta.a fj.delta.n fj.delta.c) ∧ W.cell? ⟨bb, ob + j * 8 + 3, none⟩ = some (.slice fj.state.a fj.state.n fj.state.c) ∧ W.cell? ⟨bb, ob + j * 8 + 4, none⟩ = some (.slice fj.patch.a fj.patch.n fj.patch.c) ∧ W.cell? ⟨bb, ob + j * 8 + 5, none⟩ = some (.int .i64 fj.base) ∧ W.cell? ⟨bb, ob + j * 8 + 6, none⟩ = some (.slice fj.pend.a fj.pend.n fj.pend.c) ∧ W.cell? ⟨bb, ob + j * 8 + 7, none⟩ = some (.slice fj.keys.a fj.keys.n fj.keys.c))
        (first | (simp [*]; done) | exact keep16 (by assumption) (by assumption))
        (first
          | (go_at_call 15; refine (sameStored_any fj _ ?_).mono ?_; exact HT.out _ hbel.out.drew; rintro e x1 ⟨rfl, hbx⟩))
      have B6 : Hid (Below w.heap.size w x1) := step_below hbel.out (undrew hbx)
      clear hbel hbx
      go_wp2
      go_roundw
      case rel => first | exact ⟨j + 1, by omega, by go_num, B6⟩ | ((repeat apply Exists.intro); exact ⟨⟨j + 1, by omega, by go_num, B6⟩, rfl⟩)
      case measure => simp [intOf]; omega
    · go_wp2
      go_ret
      exact ⟨rfl, hbel.out⟩
end Go.Proofs.Qxb6617693a
