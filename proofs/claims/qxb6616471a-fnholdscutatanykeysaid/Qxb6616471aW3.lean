import Derived.Test.Qxb6616471aW2
namespace Go.Proofs.Qxb6616471a
open Go.RowKit

/-- A key as it lies in the world: nil is the open end; else its bytes. -/
def KS (w : World) (ao : Option Addr) (n c : Nat) (k : Option (List UInt8)) : Prop :=
  (ao = none ∧ n = 0 ∧ c = 0 ∧ k = none) ∨ ∃ x zs, ao = some x ∧ k = some zs ∧ BS w (some x) n zs

theorem BS.below {w w' : World} {ao : Option Addr} {n : Nat} {zs : List UInt8} (h : BS w ao n zs) (hb : Below w.heap.size w w') : BS w' ao n zs := by
  refine ⟨h.1, h.2.1, fun i hi => ?_⟩
  obtain ⟨b, off, e, hc⟩ := h.2.2 i hi
  exact ⟨b, off, e, cell_later hb hc⟩

theorem KS.below {w w' : World} {ao : Option Addr} {n c : Nat} {k : Option (List UInt8)} (h : KS w ao n c k) (hb : Below w.heap.size w w') : KS w' ao n c k := by
  rcases h with h | ⟨x, zs, e1, e2, h⟩
  · exact .inl h
  · exact .inr ⟨x, zs, e1, e2, h.below hb⟩

theorem below_alloc (w : World) (o : Obj) : Below w.heap.size w (w.alloc o) := (Below.refl _ _).alloc (Nat.le_refl _) o

theorem eq35 (w : World) (a : Option Addr) (n c n' c' : Nat) : (binOp .eql 35 (.slice a n c) (.slice none n' c')).run Try.prog w = .ok (.bool a.isNone) w := Lib.run_eql_slice_nil w 35 5 a n c n' c' Try.underlying35
theorem ne35 (w : World) (a : Option Addr) (n c n' c' : Nat) : (binOp .neq 35 (.slice a n c) (.slice none n' c')).run Try.prog w = .ok (.bool (!a.isNone)) w := run_neq_slice_nil_any w 35 5 a n c n' c' Try.underlying35

set_option maxHeartbeats 400000 in
theorem nonEmpty_any (la ha : Option Addr) (ln lc hn hc : Nat) (lo hi : Option (List UInt8)) (w : World) (hl : KS w la ln lc lo) (hh : KS w ha hn hc hi) :
    Calls Try.prog 22 #[.agg #[.slice la ln lc, .slice ha hn hc]] w fun e w' => e = .returned (.bool (nonE (lo, hi))) ∧ Below w.heap.size w w' := by
  have q35 := eq35
  rcases hl with ⟨rfl, rfl, rfl, rfl⟩ | ⟨x, zs, rfl, rfl, hl⟩
  · go_enter Try.func22, Try.ntmps22
    go_wp2
    go_ret
    exact ⟨rfl, below_alloc _ _⟩
  rcases hh with ⟨rfl, rfl, rfl, rfl⟩ | ⟨y, zs', rfl, rfl, hh⟩
  · go_enter Try.func22, Try.ntmps22
    go_wp2
    go_ret
    exact ⟨rfl, below_alloc _ _⟩
  have hl' := fun o => hl.below (below_alloc w o)
  have hh' := fun o => hh.below (below_alloc w o)
  clear hl hh
  go_enter Try.func22, Try.ntmps22
  go_wp2_with (go_at_call 15; refine (cmp_any _ _ _ _ _ _ _ _ _ (hl' _) (hh' _)).mono ?_; rintro e w' ⟨rfl, q, rfl⟩)
  go_ret
  exact ⟨rfl, below_drewN (below_alloc _ _) _⟩
end Go.Proofs.Qxb6616471a
