import Derived.Test.Qxb6616471aW8
namespace Go.Proofs.Qxb6616471a
open Go.RowKit

set_option maxHeartbeats 400000 in
theorem closure_any (la ha : Option Addr) (ln lc hn hc : Nat) (la' ha' : Option Addr) (ln' lc' hn' hc' : Nat) (lo hi lo' hi' : Option (List UInt8)) (p : Nat) (w : World)
    (h1 : KS w la ln lc lo) (h2 : KS w ha hn hc hi) (h3 : KS w la' ln' lc' lo') (h4 : KS w ha' hn' hc' hi')
    (c0 : w.cell? ⟨p, 0, none⟩ = some (.slice la' ln' lc')) (c1 : w.cell? ⟨p, 1, none⟩ = some (.slice ha' hn' hc')) :
    Calls Try.prog 27 #[.agg #[.slice la ln lc, .slice ha hn hc], .pointer (some ⟨p, 0, none⟩)] w fun e w' => e = .returned (.bool (cont (lo, hi) (lo', hi'))) ∧ Below w.heap.size w w' := by
  have hp : p < w.heap.size := World.block_lt_of_cell? _ _ c0
  go_enter Try.func27, Try.ntmps27
  go_wp2_with (go_at_call 28; refine (contains_any _ _ _ _ _ _ _ _ _ _ _ _ _ _ _ _ _ (h1.below (below_alloc _ _)) (h2.below (below_alloc _ _)) (h3.below (below_alloc _ _)) (h4.below (below_alloc _ _))).mono ?_; rintro e w' ⟨rfl, hb⟩)
  go_ret
  exact ⟨rfl, (below_alloc _ _).trans (hb.mono (by simp))⟩

/-- An index that is not below zero exactly where some range holds r. -/
def RetIdx (L : List (Option (List UInt8) × Option (List UInt8))) (r : Option (List UInt8) × Option (List UInt8)) (e : Ending) : Prop := ∃ i : Int, e = .returned (.int .i64 i) ∧ decide (0 ≤ i) = holdsL L r

theorem holdsL_yes {L : List (Option (List UInt8) × Option (List UInt8))} {r : Option (List UInt8) × Option (List UInt8)} (k : Nat) (hk : k < L.length) (h : cont (L.getD k (none, none)) r = true) : holdsL L r = true := by
  rw [holdsL, List.any_eq_true]
  refine ⟨L[k], List.getElem_mem hk, ?_⟩
  simpa [List.getD, hk] using h
theorem holdsL_no {L : List (Option (List UInt8) × Option (List UInt8))} {r : Option (List UInt8) × Option (List UInt8)} (h : ∀ k, k < L.length → cont (L.getD k (none, none)) r = false) : holdsL L r = false := by
  rw [holdsL, List.any_eq_false]
  intro x hx
  obtain ⟨k, hk, rfl⟩ := List.getElem_of_mem hx
  have := h k hk
  simp only [List.getD, List.getElem?_eq_getElem hk, Option.getD_some] at this
  simp [this]

set_option maxHeartbeats 400000 in
theorem indexFunc_any (ao : Option Addr) (n c p : Nat) (L : List (Option (List UInt8) × Option (List UInt8))) (la' ha' : Option Addr) (ln' lc' hn' hc' : Nat) (lo' hi' : Option (List UInt8)) (w : World) (h : RS w ao n L)
    (h3 : KS w la' ln' lc' lo') (h4 : KS w ha' hn' hc' hi') (c0 : w.cell? ⟨p, 0, none⟩ = some (.slice la' ln' lc')) (c1 : w.cell? ⟨p, 1, none⟩ = some (.slice ha' hn' hc')) :
    Calls Try.prog 30 #[.slice ao n c, .func (Fn.func 27) #[] #[.pointer (some ⟨p, 0, none⟩)]] w fun e w' => RetIdx L (lo', hi') e ∧ Below w.heap.size w w' := by
  have hnn := h.2.1
  have HL : Hid (L.length = n) := h.1
  go_enter Try.func30, Try.ntmps30
  go_wp2
  go_loopw [8] (fun i wr => ∃ k : Nat, k ≤ n ∧ i = .int .i64 k ∧ Hid (Below w.heap.size w wr) ∧ Hid (∀ j, j < k → cont (L.getD j (none, none)) (lo', hi') = false)) (fun i _ => n - (intOf i).toNat)
  case atStart => exact ⟨0, Nat.zero_le _, rfl, Below.refl _ _, fun j hj => absurd hj (by omega)⟩
  case round =>
    obtain ⟨k, hk, rfl, hbel, hno⟩ := hrel
    by_cases hlt : k < n
    · obtain ⟨b, off, la, ln, lc, ha, hn, hc, rfl, g1, g2, k1, k2⟩ := (h.below hbel.out).2.2 k hlt
      have k3 := h3.below hbel.out
      have k4 := h4.below hbel.out
      have d0 := cell_later hbel.out c0
      have d1 := cell_later hbel.out c1
      clear h h3 h4 c0 c1
      have hkn : (k : Int) < (n : Int) := by omega
      cases hcn : cont ((L.getD k (none, none)).1, (L.getD k (none, none)).2) (lo', hi') with
      | true =>
        have HC : Hid (cont ((L.getD k (none, none)).1, (L.getD k (none, none)).2) (lo', hi') = true) := hcn
        clear hcn
        have HI : RetIdx L (lo', hi') (.returned (.int .i64 (k : Int))) := ⟨k, rfl, by rw [holdsL_yes k (by rw [HL.out]; exact hlt) HC.out]; simp⟩
        go_wp2_with (go_at_call 27; refine (closure_any _ _ _ _ _ _ _ _ _ _ _ _ _ _ _ _ _ _ k1 k2 k3 k4 d0 d1).mono ?_; rintro e w' ⟨rfl, hb'⟩; rw [HC.out])
        go_ret
        exact ⟨HI, hbel.out.trans (hb'.mono hbel.out.size)⟩
      | false =>
        have HC : Hid (cont ((L.getD k (none, none)).1, (L.getD k (none, none)).2) (lo', hi') = false) := hcn
        clear hcn
        go_wp2_with (go_at_call 27; refine (closure_any _ _ _ _ _ _ _ _ _ _ _ _ _ _ _ _ _ _ k1 k2 k3 k4 d0 d1).mono ?_; rintro e w' ⟨rfl, hb'⟩; rw [HC.out])
        have HB : Hid (Below w.heap.size w w') := hbel.out.trans (hb'.mono hbel.out.size)
        go_roundw
        case rel => exact ⟨k + 1, by omega, by go_num, HB, fun j hj => by
          by_cases hjk : j < k
          · exact hno.out j hjk
          · obtain rfl : j = k := by omega
            exact HC.out⟩
        case measure => simp [intOf]; omega
    · have HI : RetIdx L (lo', hi') (.returned (.int .i64 (-1))) := ⟨-1, rfl, by rw [holdsL_no (fun j hj => hno.out j (by rw [HL.out] at hj; omega))]; rfl⟩
      go_wp2
      go_ret
      exact ⟨HI, hbel.out⟩

set_option maxHeartbeats 400000 in
theorem containsFunc_any (ao : Option Addr) (n c p : Nat) (L : List (Option (List UInt8) × Option (List UInt8))) (la' ha' : Option Addr) (ln' lc' hn' hc' : Nat) (lo' hi' : Option (List UInt8)) (w : World) (h : RS w ao n L)
    (h3 : KS w la' ln' lc' lo') (h4 : KS w ha' hn' hc' hi') (c0 : w.cell? ⟨p, 0, none⟩ = some (.slice la' ln' lc')) (c1 : w.cell? ⟨p, 1, none⟩ = some (.slice ha' hn' hc')) :
    Calls Try.prog 26 #[.slice ao n c, .func (Fn.func 27) #[] #[.pointer (some ⟨p, 0, none⟩)]] w fun e w' => e = .returned (.bool (holdsL L (lo', hi'))) ∧ Below w.heap.size w w' := by
  go_enter Try.func26, Try.ntmps26
  go_wp2_with (go_at_call 30; refine (indexFunc_any _ _ _ _ _ _ _ _ _ _ _ _ _ _ h h3 h4 c0 c1).mono ?_; rintro e w' ⟨⟨i, rfl, hi⟩, hb'⟩; have HI : Hid (decide (0 ≤ i) = holdsL L (lo', hi')) := hi; clear hi)
  go_ret
  exact ⟨by rw [← HI.out]; rfl, hb'⟩

set_option maxHeartbeats 400000 in
theorem holds_any (p : Nat) (ao : Option Addr) (n c : Nat) (L : List (Option (List UInt8) × Option (List UInt8))) (la ha : Option Addr) (ln lc hn hc : Nat) (lo hi : Option (List UInt8)) (w : World) (c0 : w.cell? ⟨p, 2, none⟩ = some (.slice ao n c))
    (h : RS w ao n L) (h3 : KS w la ln lc lo) (h4 : KS w ha hn hc hi) :
    Calls Try.prog 24 #[.pointer (some ⟨p, 0, none⟩), .agg #[.slice la ln lc, .slice ha hn hc]] w fun e w' => e = .returned (.bool (holdsL L (lo, hi))) ∧ Below w.heap.size w w' := by
  have hp : p < w.heap.size := World.block_lt_of_cell? _ _ c0
  go_enter Try.func24, Try.ntmps24
  go_wp2_with (go_at_call 26; refine (containsFunc_any _ _ _ _ L la ha ln lc hn hc lo hi _ (h.below (below_alloc _ _)) (h3.below (below_alloc _ _)) (h4.below (below_alloc _ _)) (by simp) (by simp)).mono ?_; rintro e w' ⟨rfl, hb'⟩)
  go_ret
  exact ⟨rfl, (below_alloc _ _).trans (hb'.mono (by simp))⟩

set_option maxHeartbeats 400000 in
theorem zzholds_any (p : Nat) (ao : Option Addr) (n c : Nat) (L : List (Option (List UInt8) × Option (List UInt8))) (la ha : Option Addr) (ln lc hn hc : Nat) (lo hi : Option (List UInt8)) (w : World) (c0 : w.cell? ⟨p, 2, none⟩ = some (.slice ao n c))
    (h : RS w ao n L) (h3 : KS w la ln lc lo) (h4 : KS w ha hn hc hi) :
    Calls Try.prog 19 #[.pointer (some ⟨p, 0, none⟩), .agg #[.slice la ln lc, .slice ha hn hc]] w fun e w' => e = .returned (.bool (holdsL L (lo, hi))) ∧ Below w.heap.size w w' := by
  go_enter Try.func19, Try.ntmps19
  go_wp2_with (go_at_call 24; refine (holds_any _ ao n c L _ _ _ _ _ _ lo hi _ ?_ ?_ ?_ ?_).mono ?_; exact cell_later (below_alloc _ _) c0; exact h.below (below_alloc _ _); exact h3.below (below_alloc _ _); exact h4.below (below_alloc _ _); rintro e w' ⟨rfl, hb'⟩)
  go_ret
  exact ⟨rfl, (below_alloc _ _).trans (hb'.mono (by simp))⟩

set_option maxHeartbeats 400000 in
theorem newHolder_any (ao : Option Addr) (n c : Nat) (w : World) :
    Calls Try.prog 16 #[.slice ao n c] w fun e w' => e = .returned (.pointer (some ⟨w.heap.size, 0, none⟩)) ∧ w'.cell? ⟨w.heap.size, 2, none⟩ = some (.slice ao n c) ∧ Below w.heap.size w w' := by
  go_enter Try.func16, Try.ntmps16
  go_wp2
  go_ret
  exact ⟨rfl, by simp, below_alloc _ _⟩
end Go.Proofs.Qxb6616471a
