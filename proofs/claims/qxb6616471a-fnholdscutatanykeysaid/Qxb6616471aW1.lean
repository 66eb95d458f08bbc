import Derived.Test.Qxb6616471aRows
import Derived.WalkKit
import Derived.WalkSpells
import Derived.WalkLawsBesides
import Derived.Deep.QuietTactic
import Derived.BigQuiet
import Derived.Test.Qxb6616471aPlain
namespace Go.Proofs.Qxb6616471a
open Go.RowKit

set_option maxHeartbeats 400000 in
theorem add_any (t n : Int) (w : World) :
    Calls Try.prog 7 #[.int .i64 t, .int .i64 n] w fun e w' => (∃ r, e = .returned (.int .i64 r)) ∧ w' = w := by
  by_cases h1 : 1048576 < t
  · go_enter Try.func7, Try.ntmps7
    go_wp2
    go_ret
    exact ⟨⟨_, rfl⟩, rfl⟩
  by_cases h2 : 1048576 < n
  · go_enter Try.func7, Try.ntmps7
    go_wp2
    go_ret
    exact ⟨⟨_, rfl⟩, rfl⟩
  · go_enter Try.func7, Try.ntmps7
    go_wp2
    go_ret
    exact ⟨⟨_, rfl⟩, rfl⟩

set_option maxHeartbeats 400000 in
theorem rangesBytes_any (t : Int) (ao : Option Addr) (n c : Nat) (w : World) (hn : n ≤ maxLen)
    (hc : ∀ i, i < n → ∃ b off, ao = some ⟨b, off, none⟩ ∧ (∃ la ln lc, w.cell? ⟨b, off + i * 2, none⟩ = some (.slice la ln lc)) ∧ ∃ ha hn hc, w.cell? ⟨b, off + i * 2 + 1, none⟩ = some (.slice ha hn hc)) :
    Calls Try.prog 13 #[.int .i64 t, .slice ao n c] w fun e w' => (∃ r, e = .returned (.int .i64 r)) ∧ w' = w := by
  unfold maxLen at hn
  go_enter Try.func13, Try.ntmps13
  go_wp2
  go_loop [0, 5] (fun t i => ∃ (k : Nat) (t' : Int), k ≤ n ∧ i = .int .i64 k ∧ t = .int .i64 t') (fun _ i => n - (intOf i).toNat)
  case atStart => exact ⟨0, t, Nat.zero_le _, rfl, rfl⟩
  case round =>
    obtain ⟨k, t', hk, rfl, rfl⟩ := hrel
    by_cases hlt : k < n
    · obtain ⟨b, off, rfl, ⟨la, ln, lc, g1⟩, ⟨ha, hn', hc', g2⟩⟩ := hc k hlt
      clear hc
      go_wp2_with (go_at_call 7; refine (add_any _ _ _).mono ?_; rintro e w' ⟨⟨r, rfl⟩, rfl⟩)
      · go_ret
        exact ⟨⟨_, rfl⟩, rfl⟩
      · go_round
        case rel => exact ⟨k + 1, _, by omega, by go_num, rfl⟩
        case measure => simp [intOf]; omega
    · go_wp2
      go_ret
      exact ⟨⟨_, rfl⟩, rfl⟩

/-- The bound on total length said yes: so every length is within it. -/
def RetFits (n : Nat) (LN HN : Nat → Nat) (ln hn mn : Nat) (e : Ending) : Prop :=
  ∃ r : Bool, e = .returned (.bool r) ∧ (r = true → n ≤ 1048576 ∧ (∀ i, i < n → LN i ≤ 1048576 ∧ HN i ≤ 1048576) ∧ ln ≤ 1048576 ∧ hn ≤ 1048576 ∧ mn ≤ 1048576)

theorem RetFits.no (n : Nat) (LN HN : Nat → Nat) (ln hn mn : Nat) : RetFits n LN HN ln hn mn (.returned (.bool false)) := ⟨false, rfl, fun h => by cases h⟩

set_option maxHeartbeats 400000 in
theorem zzBytes_any (ao : Option Addr) (n c : Nat) (LA HA : Nat → Option Addr) (LN LC HN HC : Nat → Nat) (la : Option Addr) (ln lc : Nat) (ha : Option Addr) (hn hc : Nat) (ma : Option Addr) (mn mc : Nat) (w : World) (hnn : n ≤ maxLen)
    (hcc : ∀ i, i < n → ∃ b off, ao = some ⟨b, off, none⟩ ∧ w.cell? ⟨b, off + i * 2, none⟩ = some (.slice (LA i) (LN i) (LC i)) ∧ w.cell? ⟨b, off + i * 2 + 1, none⟩ = some (.slice (HA i) (HN i) (HC i))) :
    Calls Try.prog 12 #[.slice ao n c, .agg #[.slice la ln lc, .slice ha hn hc], .slice ma mn mc] w fun e w' => RetFits n LN HN ln hn mn e ∧ Below w.heap.size w w' := by
  unfold maxLen at hnn
  have no := RetFits.no n LN HN ln hn mn
  by_cases hbig : 1048576 < (n : Int)
  · go_enter Try.func12, Try.ntmps12
    go_wp2
    go_ret
    exact ⟨no, (Below.refl _ _).alloc (Nat.le_refl _) _⟩
  go_enter Try.func12, Try.ntmps12
  go_wp2
  go_loop [7, 8] (fun t i => ∃ (k : Nat) (t' : Int), k ≤ n ∧ i = .int .i64 k ∧ t = .int .i64 t' ∧ 0 ≤ t' ∧ t' ≤ 1048576 ∧ Hid (∀ i, i < k → LN i ≤ 1048576 ∧ HN i ≤ 1048576)) (fun _ i => n - (intOf i).toNat)
  case atStart => exact ⟨0, n, Nat.zero_le _, rfl, rfl, by omega, by omega, fun i hi => absurd hi (by omega)⟩
  case round =>
    obtain ⟨k, t', hk, rfl, rfl, ht0, ht1, hall⟩ := hrel
    by_cases hlt : k < n
    · obtain ⟨b, off, rfl, g1, g2⟩ := hcc k hlt
      have hb : b < w.heap.size := World.block_lt_of_cell? _ _ g1
      clear hcc
      have HN' : Hid (LN k ≤ 1048576 → HN k ≤ 1048576 → Hid (∀ i, i < k + 1 → LN i ≤ 1048576 ∧ HN i ≤ 1048576)) := fun a1 a2 i hi => by
        by_cases hik : i < k
        · exact hall.out i hik
        · obtain rfl : i = k := by omega
          exact ⟨a1, a2⟩
      generalize LN k = lnk at *
      generalize HN k = hnk at *
      go_wp2
      iterate 4
        · go_ret
          exact ⟨no, (Below.refl _ _).alloc (Nat.le_refl _) _⟩
      go_round
      case rel => exact ⟨k + 1, _, by omega, by go_num, rfl, by omega, by omega, HN'.out (by omega) (by omega)⟩
      case measure => simp [intOf]; omega
    · have Y : Hid (ln ≤ 1048576 → hn ≤ 1048576 → mn ≤ 1048576 → RetFits n LN HN ln hn mn (.returned (.bool true))) := fun a1 a2 a3 =>
        ⟨true, rfl, fun _ => ⟨by omega, fun i hi => hall.out i (by omega), a1, a2, a3⟩⟩
      go_wp2
      iterate 6
        · go_ret
          exact ⟨no, (Below.refl _ _).alloc (Nat.le_refl _) _⟩
      go_ret
      exact ⟨Y.out (by omega) (by omega) (by omega), (Below.refl _ _).alloc (Nat.le_refl _) _⟩
end Go.Proofs.Qxb6616471a
