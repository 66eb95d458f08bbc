import Derived.Test.Qxb6617693aW1
namespace Go.Proofs.Qxb6617693a
open Go.RowKit

def RetI (e : Ending) : Prop := ∃ r : Int, e = .returned (.int .i64 r)

set_option maxRecDepth 100000 in
set_option maxHeartbeats 2000000 in
theorem roundBytes_any (ao : Option Addr) (n c : Nat) (pa : Option Addr) (pn pc : Nat) (F : Nat → Stp) (w : World) (hnn : n ≤ 65536) (h : SS w ao n F) :
    Calls Try.prog 5 #[.slice ao n c, .slice pa pn pc] w fun e w' => RetI e ∧ Below w.heap.size w w' := by
  by_cases hp : 1048576 < (pn : Int)
  · go_enter Try.func5, Try.ntmps5
    go_wp2
    go_ret
    exact ⟨⟨_, rfl⟩, Below.refl _ _⟩
  go_enter Try.func5, Try.ntmps5
  go_wp2
  go_loopw [5, 6] (fun t i wr => ∃ (k : Nat) (t' : Int), k ≤ n ∧ i = .int .i64 k ∧ t = .int .i64 t' ∧ Hid (Below w.heap.size w wr)) (fun _ i _ => n - (intOf i).toNat)
  case atStart => exact ⟨0, pn, Nat.zero_le _, rfl, rfl, Below.refl _ _⟩
  case round =>
    obtain ⟨k, t', hk, rfl, rfl, hbel⟩ := hrel
    by_cases hlt : k < n
    · obtain ⟨b, off, rfl, g0, g1, g2, g3, g4, g5, g6, g7⟩ := (h.below hbel.out).eight k hlt
      clear h
      have hkn : (k : Int) < (n : Int) := by omega
      have hbs : b < wr.heap.size := World.block_lt_of_cell? _ _ g0
      have HB : ∀ o, Hid (Below w.heap.size w (wr.alloc o)) := fun o => hbel.out.alloc hbel.out.size _
      generalize F k = fk at *
      go_wp2
      iterate 7
        · go_ret
          exact ⟨⟨_, rfl⟩, (HB _).out⟩
      go_roundw
      case rel => exact ⟨k + 1, _, by omega, by go_num, rfl, HB _⟩
      case measure => simp [intOf]; omega
    · go_wp2
      go_ret
      exact ⟨⟨_, rfl⟩, hbel.out⟩

set_option maxHeartbeats 400000 in
/-- A byte slice against itself. -/
theorem sameBytes_any (s : Sl) (w : World) (h : RD w s) :
    Calls Try.prog 11 #[.slice s.a s.n s.c, .slice s.a s.n s.c] w fun e w' => e = .returned (.bool true) ∧ ∃ q, w' = w.drewN q := by
  have q23 : ∀ (w : World) (a : Option Addr) (n c n' c' : Nat), (binOp .eql 23 (.slice a n c) (.slice none n' c')).run Try.prog w = .ok (.bool a.isNone) w := fun w a n c n' c' => Lib.run_eql_slice_nil w 23 5 a n c n' c' Try.underlying23
  obtain ⟨a, n, c⟩ := s
  have hn := h.1
  have HR : Hid (RD w ⟨a, n, c⟩) := h
  unfold maxLen at hn
  clear h
  go_enter Try.func11, Try.ntmps11
  go_wp2
  go_loopw [5] (fun i wr => ∃ k q : Nat, k ≤ n ∧ i = .int .i64 k ∧ wr = w.drewN q) (fun i _ => n - (intOf i).toNat)
  case atStart => exact ⟨0, 0, Nat.zero_le _, rfl, rfl⟩
  case round =>
    obtain ⟨k, q, hk, rfl, rfl⟩ := hrel
    by_cases hlt : k < n
    · obtain ⟨b, off, z, e, hc⟩ := HR.out.2 k hlt
      simp only at e
      subst e
      have hkn : (k : Int) < (n : Int) := by omega
      go_wp2
      go_quiet (fail)
      go_wp2
      go_roundw
      case rel => exact ⟨k + 1, _, by omega, by go_num, rfl⟩
      case measure => simp [intOf]; omega
    · go_wp2
      go_ret
      exact ⟨rfl, _, rfl⟩

theorem b2 (w : World) (o o' : Obj) : Below w.heap.size w ((w.alloc o).alloc o') := (below_alloc _ _).alloc (by simp) _

set_option maxHeartbeats 1000000 in
theorem sameStep_any (f : Stp) (w : World) (h : RT w f) :
    Calls Try.prog 10 #[.agg #[.int .i64 f.no, .string f.node, .slice f.delta.a f.delta.n f.delta.c, .slice f.state.a f.state.n f.state.c, .slice f.patch.a f.patch.n f.patch.c, .int .i64 f.base, .slice f.pend.a f.pend.n f.pend.c, .slice f.keys.a f.keys.n f.keys.c],
      .agg #[.int .i64 f.no, .string f.node, .slice f.delta.a f.delta.n f.delta.c, .slice f.state.a f.state.n f.state.c, .slice f.patch.a f.patch.n f.patch.c, .int .i64 f.base, .slice f.pend.a f.pend.n f.pend.c, .slice f.keys.a f.keys.n f.keys.c]] w fun e w' =>
      e = .returned (.bool true) ∧ Below w.heap.size w w' := by
  have HR : Hid (∀ W, Below w.heap.size w W → RT W f) := fun W hb => h.below hb
  clear h
  go_enter Try.func10, Try.ntmps10
  go_wp2_with fail
  refine (sameBytes_any f.delta _ (HR.out _ (b2 _ _ _)).1).mono ?_
  rintro e w' ⟨rfl, q1, rfl⟩
  go_wp2_with fail
  refine (sameBytes_any f.state _ (HR.out _ (below_drewN (b2 _ _ _) _)).2.1).mono ?_
  rintro e w' ⟨rfl, q2, rfl⟩
  go_wp2_with fail
  refine (sameBytes_any f.patch _ (HR.out _ (below_drewN (b2 _ _ _) _)).2.2.1).mono ?_
  rintro e w' ⟨rfl, q3, rfl⟩
  go_wp2_with fail
  refine (sameBytes_any f.pend _ (HR.out _ (below_drewN (b2 _ _ _) _)).2.2.2.1).mono ?_
  rintro e w' ⟨rfl, q4, rfl⟩
  go_wp2_with fail
  refine (sameBytes_any f.keys _ (HR.out _ (below_drewN (b2 _ _ _) _)).2.2.2.2).mono ?_
  rintro e w' ⟨rfl, q5, rfl⟩
  go_wp2
  go_ret
  exact ⟨rfl, below_drewN (b2 _ _ _) _⟩

set_option maxHeartbeats 1000000 in
theorem sameStored_any (f : Stp) (w : World) (h : RT w f) :
    Calls Try.prog 15 #[.agg #[.int .i64 f.no, .string f.node, .slice f.delta.a f.delta.n f.delta.c, .slice f.state.a f.state.n f.state.c, .slice f.patch.a f.patch.n f.patch.c, .int .i64 f.base, .slice f.pend.a f.pend.n f.pend.c, .slice f.keys.a f.keys.n f.keys.c],
      .agg #[.int .i64 f.no, .string f.node, .slice f.delta.a f.delta.n f.delta.c, .slice f.state.a f.state.n f.state.c, .slice f.patch.a f.patch.n f.patch.c, .int .i64 f.base, .slice f.pend.a f.pend.n f.pend.c, .slice f.keys.a f.keys.n f.keys.c]] w fun e w' =>
      e = .returned (.bool true) ∧ Below w.heap.size w w' := by
  have HR : Hid (∀ W, Below w.heap.size w W → RT W f) := fun W hb => h.below hb
  clear h
  go_enter Try.func15, Try.ntmps15
  go_wp2_with fail
  refine (sameBytes_any f.delta _ (HR.out _ (b2 _ _ _)).1).mono ?_
  rintro e w' ⟨rfl, q1, rfl⟩
  go_wp2_with fail
  refine (sameBytes_any f.state _ (HR.out _ (below_drewN (b2 _ _ _) _)).2.1).mono ?_
  rintro e w' ⟨rfl, q2, rfl⟩
  go_wp2_with fail
  refine (sameBytes_any f.patch _ (HR.out _ (below_drewN (b2 _ _ _) _)).2.2.1).mono ?_
  rintro e w' ⟨rfl, q3, rfl⟩
  go_wp2_with fail
  refine (sameBytes_any f.pend _ (HR.out _ (below_drewN (b2 _ _ _) _)).2.2.2.1).mono ?_
  rintro e w' ⟨rfl, q4, rfl⟩
  go_wp2_with fail
  refine (sameBytes_any f.keys _ (HR.out _ (below_drewN (b2 _ _ _) _)).2.2.2.2).mono ?_
  rintro e w' ⟨rfl, q5, rfl⟩
  go_wp2
  go_ret
  exact ⟨rfl, below_drewN (b2 _ _ _) _⟩
end Go.Proofs.Qxb6617693a
