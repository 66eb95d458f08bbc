import Derived.Test.Qxb6617683aRows
import Derived.WalkKit
import Derived.WalkSpells
import Derived.WalkLawsBesides
import Derived.Deep.QuietTactic
import Derived.BigQuiet
import Derived.Deep.Draws
namespace Go.Proofs.Qxb6617683a
open Go.RowKit

/-- One field of a listing. -/
structure Fld where
  n : ByteArray
  v : ByteArray
  c : Bool
  p : ByteArray

def Fld.cell (f : Fld) : Nat → Value
  | 0 => .string f.n
  | 1 => .string f.v
  | 2 => .bool f.c
  | _ => .string f.p

/-- What the listing shows of a field. -/
def shown (f : Fld) : Fld := if f.p.toList.isEmpty = true then f else { f with v := f.p }

/-- A slice of n fields as it lies in the world. -/
def FS (w : World) (ao : Option Addr) (n : Nat) (F : Nat → Fld) : Prop :=
  ∀ i, i < n → ∃ b off, ao = some ⟨b, off, none⟩ ∧ ∀ r, r < 4 → w.cell? ⟨b, off + i * 4 + r, none⟩ = some ((F i).cell r)

theorem FS.four {w : World} {ao : Option Addr} {n : Nat} {F : Nat → Fld} (h : FS w ao n F) (i : Nat) (hi : i < n) : ∃ b off, ao = some ⟨b, off, none⟩ ∧ w.cell? ⟨b, off + i * 4, none⟩ = some (.string (F i).n) ∧
    w.cell? ⟨b, off + i * 4 + 1, none⟩ = some (.string (F i).v) ∧ w.cell? ⟨b, off + i * 4 + 2, none⟩ = some (.bool (F i).c) ∧ w.cell? ⟨b, off + i * 4 + 3, none⟩ = some (.string (F i).p) := by
  obtain ⟨b, off, e, h⟩ := h i hi
  exact ⟨b, off, e, h 0 (by omega), h 1 (by omega), h 2 (by omega), h 3 (by omega)⟩

theorem FS.below {w w' : World} {ao : Option Addr} {n : Nat} {F : Nat → Fld} (h : FS w ao n F) (hb : Below w.heap.size w w') : FS w' ao n F := by
  intro i hi
  obtain ⟨b, off, e, h⟩ := h i hi
  exact ⟨b, off, e, fun r hr => cell_later hb (h r hr)⟩

theorem below_alloc (w : World) (o : Obj) : Below w.heap.size w (w.alloc o) := (Below.refl _ _).alloc (Nat.le_refl _) o
theorem step_below {w W w1 : World} (h : Below w.heap.size w W) (hb : Below W.heap.size W w1) : Below w.heap.size w w1 := h.trans (hb.mono h.size)

/-- It returned some bool. -/
def RetB (e : Ending) : Prop := ∃ r : Bool, e = .returned (.bool r)

set_option maxHeartbeats 400000 in
theorem zzBytesA_any (ao : Option Addr) (n c : Nat) (k : Int) (F : Nat → Fld) (w : World) (hnn : n ≤ maxLen) (h : FS w ao n F) :
    Calls Try.prog 5 #[.slice ao n c, .int .i64 k] w fun e w' => RetB e ∧ w' = w := by
  unfold maxLen at hnn
  by_cases hbig : 1048576 < (n : Int)
  · go_enter Try.func5, Try.ntmps5
    go_wp2
    go_ret
    exact ⟨⟨_, rfl⟩, rfl⟩
  go_enter Try.func5, Try.ntmps5
  go_wp2
  go_loop [5, 6] (fun t i => ∃ (k : Nat) (t' : Int), k ≤ n ∧ i = .int .i64 k ∧ t = .int .i64 t' ∧ 0 ≤ t' ∧ t' ≤ 1048576) (fun _ i => n - (intOf i).toNat)
  case atStart => exact ⟨0, n, Nat.zero_le _, rfl, rfl, by omega, by omega⟩
  case round =>
    obtain ⟨k, t', hk, rfl, rfl, ht0, ht1⟩ := hrel
    by_cases hlt : k < n
    · obtain ⟨b, off, rfl, g0, g1, g2, g3⟩ := h.four k hlt
      clear h g2
      generalize F k = fk at *
      go_wp2
      iterate 6
        · go_ret
          exact ⟨⟨_, rfl⟩, rfl⟩
      go_round
      case rel => exact ⟨k + 1, _, by omega, by go_num, rfl, by omega, by omega⟩
      case measure => simp [intOf]; omega
    · go_wp2
      go_ret
      exact ⟨⟨_, rfl⟩, rfl⟩

set_option maxHeartbeats 400000 in
theorem zzBytesB_any (ao : Option Addr) (n c : Nat) (k : Int) (F : Nat → Fld) (w : World) (hnn : n ≤ maxLen) (h : FS w ao n F) :
    Calls Try.prog 11 #[.slice ao n c, .int .i64 k] w fun e w' => RetB e ∧ w' = w := by
  unfold maxLen at hnn
  by_cases hbig : 1048576 < (n : Int)
  · go_enter Try.func11, Try.ntmps11
    go_wp2
    go_ret
    exact ⟨⟨_, rfl⟩, rfl⟩
  go_enter Try.func11, Try.ntmps11
  go_wp2
  go_loop [5, 6] (fun t i => ∃ (k : Nat) (t' : Int), k ≤ n ∧ i = .int .i64 k ∧ t = .int .i64 t' ∧ 0 ≤ t' ∧ t' ≤ 1048576) (fun _ i => n - (intOf i).toNat)
  case atStart => exact ⟨0, n, Nat.zero_le _, rfl, rfl, by omega, by omega⟩
  case round =>
    obtain ⟨k, t', hk, rfl, rfl, ht0, ht1⟩ := hrel
    by_cases hlt : k < n
    · obtain ⟨b, off, rfl, g0, g1, g2, g3⟩ := h.four k hlt
      clear h g2
      generalize F k = fk at *
      go_wp2
      iterate 6
        · go_ret
          exact ⟨⟨_, rfl⟩, rfl⟩
      go_round
      case rel => exact ⟨k + 1, _, by omega, by go_num, rfl, by omega, by omega⟩
      case measure => simp [intOf]; omega
    · go_wp2
      go_ret
      exact ⟨⟨_, rfl⟩, rfl⟩

set_option maxHeartbeats 400000 in
theorem fits_any (ao : Option Addr) (n c : Nat) (F : Nat → Fld) (w : World) (hnn : n ≤ 65536) (h : FS w ao n F) :
    Calls Try.prog 6 #[.slice ao n c] w fun e w' => RetB e ∧ ∃ q, w' = w.drewN q := by
  go_enter Try.func6, Try.ntmps6
  go_wp2
  go_loopw [3, 4] (fun t i wr => ∃ (k q : Nat) (t' : Int), k ≤ n ∧ i = .int .i64 k ∧ t = .int .i64 t' ∧ wr = w.drewN q) (fun _ i _ => n - (intOf i).toNat)
  case atStart => exact ⟨0, 0, 0, Nat.zero_le _, rfl, rfl, rfl⟩
  case round =>
    obtain ⟨k, q, t', hk, rfl, rfl, rfl⟩ := hrel
    by_cases hlt : k < n
    · obtain ⟨b, off, rfl, g0, g1, g2, g3⟩ := h.four k hlt
      clear h g2
      have hkn : (k : Int) < (n : Int) := by omega
      generalize F k = fk at *
      go_wp2
      go_quiet (fail)
      go_wp2
      · go_ret
        exact ⟨⟨_, rfl⟩, _, rfl⟩
      · go_roundw
        case rel => exact ⟨k + 1, _, _, by omega, by go_num, rfl, rfl⟩
        case measure => simp [intOf]; omega
    · go_wp2
      go_ret
      exact ⟨⟨_, rfl⟩, _, rfl⟩

set_option maxHeartbeats 400000 in
theorem same_any (f : Fld) (w : World) :
    Calls Try.prog 9 #[.agg #[.string f.n, .string f.v, .bool f.c, .string f.p], .agg #[.string f.n, .string f.v, .bool f.c, .string f.p]] w fun e w' => e = .returned (.bool true) ∧ Below w.heap.size w w' := by
  obtain ⟨fn, fv, fc, fp⟩ := f
  go_enter Try.func9, Try.ntmps9
  go_wp2
  go_ret
  exact ⟨rfl, (below_alloc _ _).alloc (by simp) _⟩

set_option maxHeartbeats 400000 in
theorem sameAsIn_any (f : Fld) (w : World) :
    Calls Try.prog 12 #[.agg #[.string f.n, .string f.v, .bool f.c, .string f.p], .agg #[.string f.n, .string f.v, .bool f.c, .string f.p]] w fun e w' => e = .returned (.bool true) ∧ Below w.heap.size w w' := by
  obtain ⟨fn, fv, fc, fp⟩ := f
  go_enter Try.func12, Try.ntmps12
  go_wp2
  go_ret
  exact ⟨rfl, (below_alloc _ _).alloc (by simp) _⟩

set_option maxHeartbeats 400000 in
theorem shownOf_any (f : Fld) (w : World) :
    Calls Try.prog 10 #[.agg #[.string f.n, .string f.v, .bool f.c, .string f.p]] w fun e w' => e = .returned (.agg #[.string (shown f).n, .string (shown f).v, .bool (shown f).c, .string (shown f).p]) ∧ Below w.heap.size w w' := by
  by_cases hp : f.p.toList.isEmpty = true
  · have e : Hid (shown f = f) := if_pos hp
    go_enter Try.func10, Try.ntmps10
    go_wp2
    rw [e.out]
    exact bodyPost_ret (v := .agg #[.string f.n, .string f.v, .bool f.c, .string f.p]) (by simp [results, Try.results10, go_sem]) rfl ⟨rfl, (below_alloc _ _).alloc (by simp) _⟩
  · have e : Hid (shown f = { f with v := f.p }) := if_neg hp
    have hp' : f.p.toList.isEmpty = false := by simpa using hp
    clear hp
    go_enter Try.func10, Try.ntmps10
    go_wp2
    rw [e.out]
    exact bodyPost_ret (v := .agg #[.string f.n, .string f.p, .bool f.c, .string f.p]) (by simp [results, Try.results10, go_sem]) rfl ⟨rfl, (below_alloc _ _).alloc (by simp) _⟩
end Go.Proofs.Qxb6617683a
