import Derived.Test.Qxb6617693aRows
import Derived.WalkKit
import Derived.WalkSpells
import Derived.WalkLawsBesides
import Derived.Deep.QuietTactic
import Derived.BigQuiet
import Derived.Deep.Draws
namespace Go.Proofs.Qxb6617693a
open Go.RowKit

/-- A slice value. -/
structure Sl where
  a : Option Addr
  n : Nat
  c : Nat

/-- One step, its byte slices as values. -/
structure Stp where
  no : Int
  node : ByteArray
  delta : Sl
  state : Sl
  patch : Sl
  base : Int
  pend : Sl
  keys : Sl

def Stp.cell (f : Stp) : Nat → Value
  | 0 => .int .i64 f.no
  | 1 => .string f.node
  | 2 => .slice f.delta.a f.delta.n f.delta.c
  | 3 => .slice f.state.a f.state.n f.state.c
  | 4 => .slice f.patch.a f.patch.n f.patch.c
  | 5 => .int .i64 f.base
  | 6 => .slice f.pend.a f.pend.n f.pend.c
  | _ => .slice f.keys.a f.keys.n f.keys.c

/-- A byte slice can be read. -/
def RD (w : World) (s : Sl) : Prop := s.n ≤ maxLen ∧ ∀ i, i < s.n → ∃ b off z, s.a = some ⟨b, off, none⟩ ∧ w.cell? ⟨b, off + i, none⟩ = some (.int .u8 z)

theorem RD.below {w w' : World} {s : Sl} (h : RD w s) (hb : Below w.heap.size w w') : RD w' s := by
  refine ⟨h.1, fun i hi => ?_⟩
  obtain ⟨b, off, z, e, hc⟩ := h.2 i hi
  exact ⟨b, off, z, e, cell_later hb hc⟩

/-- All byte slices of a step can be read. -/
def RT (w : World) (f : Stp) : Prop := RD w f.delta ∧ RD w f.state ∧ RD w f.patch ∧ RD w f.pend ∧ RD w f.keys

theorem RT.below {w w' : World} {f : Stp} (h : RT w f) (hb : Below w.heap.size w w') : RT w' f := ⟨h.1.below hb, h.2.1.below hb, h.2.2.1.below hb, h.2.2.2.1.below hb, h.2.2.2.2.below hb⟩

/-- A slice of n steps as it lies in the world. -/
def SS (w : World) (ao : Option Addr) (n : Nat) (F : Nat → Stp) : Prop :=
  ∀ i, i < n → ∃ b off, ao = some ⟨b, off, none⟩ ∧ ∀ r, r < 8 → w.cell? ⟨b, off + i * 8 + r, none⟩ = some ((F i).cell r)

/-- The eight cells of a step, written out. -/
def Eight (w : World) (b o : Nat) (f : Stp) : Prop :=
  w.cell? ⟨b, o, none⟩ = some (.int .i64 f.no) ∧ w.cell? ⟨b, o + 1, none⟩ = some (.string f.node) ∧ w.cell? ⟨b, o + 2, none⟩ = some (.slice f.delta.a f.delta.n f.delta.c) ∧ w.cell? ⟨b, o + 3, none⟩ = some (.slice f.state.a f.state.n f.state.c) ∧
    w.cell? ⟨b, o + 4, none⟩ = some (.slice f.patch.a f.patch.n f.patch.c) ∧ w.cell? ⟨b, o + 5, none⟩ = some (.int .i64 f.base) ∧ w.cell? ⟨b, o + 6, none⟩ = some (.slice f.pend.a f.pend.n f.pend.c) ∧ w.cell? ⟨b, o + 7, none⟩ = some (.slice f.keys.a f.keys.n f.keys.c)

theorem SS.eight {w : World} {ao : Option Addr} {n : Nat} {F : Nat → Stp} (h : SS w ao n F) (i : Nat) (hi : i < n) : ∃ b off, ao = some ⟨b, off, none⟩ ∧ Eight w b (off + i * 8) (F i) := by
  obtain ⟨b, off, e, h⟩ := h i hi
  exact ⟨b, off, e, h 0 (by omega), h 1 (by omega), h 2 (by omega), h 3 (by omega), h 4 (by omega), h 5 (by omega), h 6 (by omega), h 7 (by omega)⟩

theorem SS.below {w w' : World} {ao : Option Addr} {n : Nat} {F : Nat → Stp} (h : SS w ao n F) (hb : Below w.heap.size w w') : SS w' ao n F := by
  intro i hi
  obtain ⟨b, off, e, h⟩ := h i hi
  exact ⟨b, off, e, fun r hr => cell_later hb (h r hr)⟩

theorem SS.nil {w : World} {ao : Option Addr} {n : Nat} {F : Nat → Stp} (h : SS w ao n F) (e : ao = none) : n = 0 := by
  by_cases h0 : 0 < n
  · obtain ⟨b, off, e', _⟩ := h 0 h0
    rw [e] at e'
    cases e'
  · omega

theorem below_alloc (w : World) (o : Obj) : Below w.heap.size w (w.alloc o) := (Below.refl _ _).alloc (Nat.le_refl _) o
theorem step_below {w W w1 : World} (h : Below w.heap.size w W) (hb : Below W.heap.size W w1) : Below w.heap.size w w1 := h.trans (hb.mono h.size)
theorem undrew {W w1 : World} (hb : Below W.drew.heap.size W.drew w1) : Below W.heap.size W w1 := ⟨hb.os, hb.tape, hb.output, hb.size, hb.block⟩

/-- It returned some bool. -/
def RetB (e : Ending) : Prop := ∃ r : Bool, e = .returned (.bool r)

set_option maxRecDepth 100000 in
set_option maxHeartbeats 2000000 in
theorem zzBytes_any (ao : Option Addr) (n c : Nat) (pa : Option Addr) (pn pc : Nat) (x2 x3 x4 x5 x6 : Int) (F : Nat → Stp) (w : World) (hnn : n ≤ maxLen) (h : SS w ao n F) :
    Calls Try.prog 4 #[.slice ao n c, .slice pa pn pc, .int .i64 x2, .int .i64 x3, .int .i64 x4, .int .i64 x5, .int .i64 x6] w fun e w' => RetB e ∧ w' = w := by
  unfold maxLen at hnn
  by_cases hbig : 1048576 < (n : Int)
  · go_enter Try.func4, Try.ntmps4
    go_wp2
    go_ret
    exact ⟨⟨_, rfl⟩, rfl⟩
  go_enter Try.func4, Try.ntmps4
  go_wp2
  go_loop [15, 16] (fun t i => ∃ (k : Nat) (t' : Int), k ≤ n ∧ i = .int .i64 k ∧ t = .int .i64 t' ∧ 0 ≤ t' ∧ t' ≤ 1048576) (fun _ i => n - (intOf i).toNat)
  case atStart => exact ⟨0, n, Nat.zero_le _, rfl, rfl, by omega, by omega⟩
  case round =>
    obtain ⟨k, t', hk, rfl, rfl, ht0, ht1⟩ := hrel
    by_cases hlt : k < n
    · obtain ⟨b, off, rfl, g0, g1, g2, g3, g4, g5, g6, g7⟩ := h.eight k hlt
      clear h g0 g5
      generalize F k = fk at *
      go_wp2
      iterate 12
        · go_ret
          exact ⟨⟨_, rfl⟩, rfl⟩
      go_round
      case rel => exact ⟨k + 1, _, by omega, by go_num, rfl, by omega, by omega⟩
      case measure => simp [intOf]; omega
    · go_wp2
      all_goals
        go_ret
        exact ⟨⟨_, rfl⟩, rfl⟩
end Go.Proofs.Qxb6617693a
