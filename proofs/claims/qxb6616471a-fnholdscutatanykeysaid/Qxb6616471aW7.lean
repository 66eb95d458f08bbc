import Derived.Test.Qxb6616471aW6
namespace Go.Proofs.Qxb6616471a
open Go.RowKit

theorem Try.info47 : (Try.prog.info? 47).map (fun i => (i.zero, i.size, i.bytes)) = some (some (.agg #[.slice none 0 0, .slice none 0 0]), 2, 48) := by kernel_rfl

/-- What 'make([]txn.Range, n)' lays. -/
def zero47 (n : Nat) : Obj := .cells (madeCells #[.slice none 0 0, .slice none 0 0] (n * 2)) 47

theorem make44 (n : Nat) (h : n ≤ 1048576) (w : World) : (Instr.makeSlice 44 (.int .i64 (n : Int)) (.int .i64 (n : Int))).run Try.prog w = .ok (.slice (some ⟨w.heap.size, 0, none⟩) n n) (w.alloc (zero47 n)) := by
  obtain ⟨i, hi, hzz⟩ := Option.map_eq_some_iff.1 Try.info47
  simp only [Prod.mk.injEq] at hzz
  obtain ⟨hz, hs, hb⟩ := hzz
  have := run_make (P := Try.prog) w 44 47 i _ Try.underlying44 hi hz .i64 .i64 (n : Int) (n : Int) (by omega) (Int.le_refl _) (by rw [hb]; omega) (by omega)
  rw [hs] at this
  exact this

theorem row47 (w : World) (n : Nat) : (w.alloc (zero47 n)).rowIs w.heap.size 47 (n * 2) (fun _ => .slice none 0 0) := by
  refine ⟨_, Deep.blk_alloc_new _ _, size_madeCells _ _, fun i hi => ?_⟩
  have : i % 2 = 0 ∨ i % 2 = 1 := by omega
  rcases this with h | h <;> simp [madeCells, hi, h]

/-- The first k ranges have been laid into the row N. -/
def Made (wr : World) (N n k : Nat) (L : List (Option (List UInt8) × Option (List UInt8))) : Prop :=
  ∃ f, wr.rowIs N 47 (n * 2) f ∧ ∀ j, j < k → ∃ la ln lc ha hn hc, f (j * 2) = .slice la ln lc ∧ f (j * 2 + 1) = .slice ha hn hc ∧ KS wr la ln lc (L.getD j (none, none)).1 ∧ KS wr ha hn hc (L.getD j (none, none)).2 ∧
    (∀ x, la = some x → N < x.block) ∧ (∀ x, ha = some x → N < x.block)

theorem Made.next {wr w1 : World} {N n k : Nat} {L : List (Option (List UInt8) × Option (List UInt8))} (h : Made wr N n k L) (hb : Below wr.heap.size wr w1) (hN : N < wr.heap.size)
    {la ha : Option Addr} {ln lc hn hc : Nat} (k1 : KS w1 la ln lc (L.getD k (none, none)).1) (k2 : KS w1 ha hn hc (L.getD k (none, none)).2) (l1 : ∀ x, la = some x → wr.heap.size ≤ x.block) (l2 : ∀ x, ha = some x → wr.heap.size ≤ x.block) :
    Made ((w1.setCell ⟨N, k * 2, none⟩ (.slice la ln lc)).setCell ⟨N, k * 2 + 1, none⟩ (.slice ha hn hc)) N n (k + 1) L := by
  obtain ⟨f, hr, hf⟩ := h
  have hr1 : w1.rowIs N 47 (n * 2) f := hr.of_block (hb.block N hN)
  refine ⟨_, (hr1.set (k * 2) _).set (k * 2 + 1) _, fun j hj => ?_⟩
  by_cases hjk : j < k
  · obtain ⟨la', ln', lc', ha', hn', hc', e1, e2, a1, a2, m1, m2⟩ := hf j hjk
    refine ⟨la', ln', lc', ha', hn', hc', ?_, ?_, ?_, ?_, m1, m2⟩
    · rw [if_neg (by omega), if_neg (by omega)]; exact e1
    · rw [if_neg (by omega), if_neg (by omega)]; exact e2
    · exact ((a1.below hb).setCell _ _ (fun x hx => by have := m1 x hx; simp; omega)).setCell _ _ (fun x hx => by have := m1 x hx; simp; omega)
    · exact ((a2.below hb).setCell _ _ (fun x hx => by have := m2 x hx; simp; omega)).setCell _ _ (fun x hx => by have := m2 x hx; simp; omega)
  · obtain rfl : j = k := by omega
    refine ⟨la, ln, lc, ha, hn, hc, ?_, ?_, ?_, ?_, fun x hx => by have := l1 x hx; omega, fun x hx => by have := l2 x hx; omega⟩
    · rw [if_neg (by omega), if_pos rfl]
    · rw [if_pos rfl]
    · exact (k1.setCell _ _ (fun x hx => by have := l1 x hx; simp; omega)).setCell _ _ (fun x hx => by have := l1 x hx; simp; omega)
    · exact (k2.setCell _ _ (fun x hx => by have := l2 x hx; simp; omega)).setCell _ _ (fun x hx => by have := l2 x hx; simp; omega)

theorem Made.done {wr : World} {N n : Nat} {L : List (Option (List UInt8) × Option (List UInt8))} (h : Made wr N n n L) (hl : L.length = n) (hn : n ≤ 1048576) : RS wr (some ⟨N, 0, none⟩) n L := by
  obtain ⟨f, hr, hf⟩ := h
  refine ⟨hl, hn, fun i hi => ?_⟩
  obtain ⟨la, ln, lc, ha, hn, hc, e1, e2, a1, a2, _, _⟩ := hf i hi
  refine ⟨N, 0, la, ln, lc, ha, hn, hc, rfl, ?_, ?_, a1, a2⟩
  · rw [← e1, Nat.zero_add]; exact hr.cell (by omega)
  · rw [← e2, Nat.zero_add]; exact hr.cell (by omega)

/-- What the store into the row wants. -/
theorem store17 {wr w1 : World} {N n k : Nat} {L : List (Option (List UInt8) × Option (List UInt8))} (h : Made wr N n k L) (hb : Below wr.heap.size wr w1) (hN : N < wr.heap.size) (hk : k < n) :
    (∃ v, w1.cell? ⟨N, k * 2, none⟩ = some v) ∧ (∃ v, w1.cell? ⟨N, k * 2 + 1, none⟩ = some v) ∧ w1.frozen? ⟨N, k * 2, none⟩ = false ∧ w1.frozen? ⟨N, k * 2 + 1, none⟩ = false := by
  obtain ⟨f, hr, hf⟩ := h
  have hr1 : w1.rowIs N 47 (n * 2) f := hr.of_block (hb.block N hN)
  exact ⟨⟨_, hr1.cell (i := k * 2) (by omega)⟩, ⟨_, hr1.cell (i := k * 2 + 1) (by omega)⟩, hr1.frozen _, hr1.frozen _⟩

/-- A slice of ranges that came back. -/
def RetRanges (w : World) (n : Nat) (L : List (Option (List UInt8) × Option (List UInt8))) (e : Ending) (w' : World) : Prop :=
  ∃ ao c, e = .returned (.slice ao n c) ∧ RS w' ao n L ∧ Below w.heap.size w w'

set_option maxHeartbeats 400000 in
theorem ranges_any (ao : Option Addr) (n c : Nat) (L : List (Option (List UInt8) × Option (List UInt8))) (w : World) (h : RS w ao n L) :
    Calls Try.prog 17 #[.slice ao n c] w fun e w' => RetRanges w n L e w' := by
  have q34 : ∀ (w : World) (a : Option Addr) (n c n' c' : Nat), (binOp .eql 34 (.slice a n c) (.slice none n' c')).run Try.prog w = .ok (.bool a.isNone) w := fun w a n c n' c' => Lib.run_eql_slice_nil w 34 37 a n c n' c' Try.underlying34
  have hnn := h.2.1
  have HL : Hid (L.length = n) := h.1
  cases ao with
  | none =>
    have hn0 : n = 0 := by
      by_cases h0 : 0 < n
      · obtain ⟨b, off, la, ln, lc, ha, hn, hc, e, _⟩ := h.2.2 0 h0
        cases e
      · omega
    subst hn0
    go_enter Try.func17, Try.ntmps17
    go_wp2
    go_ret
    exact ⟨none, 0, rfl, h, Below.refl _ _⟩
  | some x =>
  have hmk := make44 n hnn
  go_enter Try.func17, Try.ntmps17
  go_wp2
  go_loopw [4] (fun i wr => ∃ k : Nat, k ≤ n ∧ i = .int .i64 k ∧ Hid (Below w.heap.size w wr) ∧ Hid (Made wr w.heap.size n k L)) (fun i _ => n - (intOf i).toNat)
  case atStart => exact ⟨0, Nat.zero_le _, rfl, below_alloc _ _, ⟨_, row47 w n, fun j hj => absurd hj (by omega)⟩⟩
  case round =>
    obtain ⟨k, hk, rfl, hbel, hmade⟩ := hrel
    by_cases hlt : k < n
    · obtain ⟨b, off, la, ln, lc, ha, hn, hc, e, g1, g2, k1, k2⟩ := (h.below hbel.out).2.2 k hlt
      simp only [Option.some.injEq] at e
      subst e
      have HS : Hid (w.heap.size < wr.heap.size) := by obtain ⟨f, hr, _⟩ := hmade.out; exact hr.lt
      have hkn : (k : Int) < (n : Int) := by omega
      clear h
      go_wp2_with (go_at_call 18; refine (range_any _ _ _ _ _ _ _ _ _ k1 k2).mono ?_; rintro e w1 ⟨la1, ln1, lc1, ha1, hn1, hc1, rfl, K1, K2, hb1, L1, L2⟩; obtain ⟨⟨v0, z0⟩, ⟨v1, z1⟩, z2, z3⟩ := store17 hmade.out hb1 HS.out hlt; have HM := hmade.out.next hb1 HS.out K1 K2 L1 L2; have HM' : Hid (Made ((w1.setCell ⟨w.heap.size, k * 2, none⟩ (.slice la1 ln1 lc1)).setCell ⟨w.heap.size, k * 2 + 1, none⟩ (.slice ha1 hn1 hc1)) w.heap.size n (k + 1) L) := HM; clear HM K1 K2 L1 L2)
      have HB : Hid (Below w.heap.size w w1) := hbel.out.trans (hb1.mono hbel.out.size)
      go_roundw
      case rel => exact ⟨k + 1, by omega, by go_num, (HB.out.setCell (Nat.le_refl _) _).setCell (Nat.le_refl _) _, HM'⟩
      case measure => simp [intOf]; omega
    · have HR := hmade.out
      obtain rfl : k = n := by omega
      go_wp2
      go_ret
      exact ⟨_, _, rfl, HR.done HL.out hnn, hbel.out⟩
end Go.Proofs.Qxb6616471a
