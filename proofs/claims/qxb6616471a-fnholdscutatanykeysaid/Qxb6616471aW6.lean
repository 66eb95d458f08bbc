import Derived.Test.Qxb6616471aW5
import Derived.Deep.RegionWith
namespace Go.Proofs.Qxb6616471a
open Go.RowKit

/-- A range value with its keys, and what is behind it. -/
def RetRange (w : World) (r : Option (List UInt8) × Option (List UInt8)) (e : Ending) (w' : World) : Prop :=
  ∃ la ln lc ha hn hc, e = .returned (.agg #[.slice la ln lc, .slice ha hn hc]) ∧ KS w' la ln lc r.1 ∧ KS w' ha hn hc r.2 ∧ Below w.heap.size w w' ∧ (∀ x, la = some x → w.heap.size ≤ x.block) ∧ (∀ x, ha = some x → w.heap.size ≤ x.block)

theorem after18 {w W w1 : World} {v0 v1 v2 v3 : Value} (hz : W.heap.size = w.heap.size + 2) (b0 : Below w.heap.size w W) (hb1 : Below W.drew.heap.size W.drew w1)
    (c0 : W.cell? ⟨w.heap.size, 0, none⟩ = some v0) (c1 : W.cell? ⟨w.heap.size, 1, none⟩ = some v1) (c2 : W.cell? ⟨w.heap.size + 1, 0, none⟩ = some v2) (c3 : W.cell? ⟨w.heap.size + 1, 1, none⟩ = some v3)
    (f2 : W.frozen? ⟨w.heap.size + 1, 0, none⟩ = false) (f3 : W.frozen? ⟨w.heap.size + 1, 1, none⟩ = false) :
    Hid (Below w.heap.size w w1 ∧ w.heap.size + 2 ≤ w1.heap.size) ∧ w1.cell? ⟨w.heap.size, 0, none⟩ = some v0 ∧ w1.cell? ⟨w.heap.size, 1, none⟩ = some v1 ∧ w1.cell? ⟨w.heap.size + 1, 0, none⟩ = some v2 ∧ w1.cell? ⟨w.heap.size + 1, 1, none⟩ = some v3 ∧
      w1.frozen? ⟨w.heap.size + 1, 0, none⟩ = false ∧ w1.frozen? ⟨w.heap.size + 1, 1, none⟩ = false := by
  have hb : Below W.heap.size W w1 := ⟨hb1.os, hb1.tape, hb1.output, hb1.size, hb1.block⟩
  refine ⟨⟨b0.trans (hb.mono (by omega)), by have := hb.size; omega⟩, cell_later hb c0, cell_later hb c1, cell_later hb c2, cell_later hb c3, ?_, ?_⟩
  · rw [hb.frozen (by simp; omega)]; exact f2
  · rw [hb.frozen (by simp; omega)]; exact f3

theorem after18b {w w1 w2 : World} {v2 v3 : Value} (b1 : Below w.heap.size w w1 ∧ w.heap.size + 2 ≤ w1.heap.size) (hb : Below w1.heap.size w1 w2)
    (c2 : w1.cell? ⟨w.heap.size + 1, 0, none⟩ = some v2) (c3 : w1.cell? ⟨w.heap.size + 1, 1, none⟩ = some v3)
    (f2 : w1.frozen? ⟨w.heap.size + 1, 0, none⟩ = false) (f3 : w1.frozen? ⟨w.heap.size + 1, 1, none⟩ = false) :
    Hid (Below w.heap.size w w2 ∧ w.heap.size + 2 ≤ w2.heap.size) ∧ w2.cell? ⟨w.heap.size + 1, 0, none⟩ = some v2 ∧ w2.cell? ⟨w.heap.size + 1, 1, none⟩ = some v3 ∧
      w2.frozen? ⟨w.heap.size + 1, 0, none⟩ = false ∧ w2.frozen? ⟨w.heap.size + 1, 1, none⟩ = false := by
  obtain ⟨b1, hz⟩ := b1
  refine ⟨⟨b1.trans (hb.mono (by omega)), by have := hb.size; omega⟩, cell_later hb c2, cell_later hb c3, ?_, ?_⟩
  · rw [hb.frozen (by simp; omega)]; exact f2
  · rw [hb.frozen (by simp; omega)]; exact f3

set_option maxHeartbeats 400000 in
theorem range_any (la ha : Option Addr) (ln lc hn hc : Nat) (lo hi : Option (List UInt8)) (w : World) (hl : KS w la ln lc lo) (hh : KS w ha hn hc hi) :
    Calls Try.prog 18 #[.agg #[.slice la ln lc, .slice ha hn hc]] w fun e w' => RetRange w (lo, hi) e w' := by
  have kl : Hid (∀ W, Below w.heap.size w W → KS W la ln lc lo) := fun W hb => hl.below hb
  have kh : Hid (∀ W, Below w.heap.size w W → KS W ha hn hc hi) := fun W hb => hh.below hb
  clear hl hh
  go_enter Try.func18, Try.ntmps18
  go_wp2
  have hW : ∃ W : World, W = (w.alloc (Obj.cells #[Value.slice la ln lc, Value.slice ha hn hc] 37)).alloc (Obj.cells #[Value.slice none 0 0, Value.slice none 0 0] 47) := ⟨_, rfl⟩
  obtain ⟨W, hW⟩ := hW
  rw [← hW]
  have b0 : Hid (Below w.heap.size w W) := by rw [hW]; exact (below_alloc _ _).alloc (by simp) _
  have c0 : W.cell? ⟨w.heap.size, 0, none⟩ = some (.slice la ln lc) := by rw [hW]; simp
  have c1 : W.cell? ⟨w.heap.size, 1, none⟩ = some (.slice ha hn hc) := by rw [hW]; simp
  have c2 : W.cell? ⟨w.heap.size + 1, 0, none⟩ = some (.slice none 0 0) := by rw [hW]; simp
  have c3 : W.cell? ⟨w.heap.size + 1, 1, none⟩ = some (.slice none 0 0) := by rw [hW]; simp
  have f2 : W.frozen? ⟨w.heap.size + 1, 0, none⟩ = false := by rw [hW]; simp
  have f3 : W.frozen? ⟨w.heap.size + 1, 1, none⟩ = false := by rw [hW]; simp
  have hz : W.heap.size = w.heap.size + 2 := by rw [hW]; simp
  have HZ : Hid (W.heap.size = w.heap.size + 2) := hz
  clear hW hz
  go_region_with (first
    | (go_at_call_of 23 (Value.slice la ln lc); refine (clone_any la ln lc lo _ ?_).mono ?_; exact kl.out _ b0.out.drew; rintro e w1 ⟨ao1, n1, d1, rfl, k1, hb1, l1⟩; have L1 : Hid (∀ x, ao1 = some x → w.heap.size + 2 ≤ x.block) := fun x hx => by {have := l1 x hx; have h2 := HZ.out; rw [heap_drew] at this; omega}; obtain ⟨B1, a0, a1, a2, a3, a4, a5⟩ := after18 HZ.out b0.out hb1 c0 c1 c2 c3 f2 f3; have K1 : Hid (KS w1 ao1 n1 d1 lo) := k1; clear k1 hb1 l1)
    | (go_at_call_of 23 (Value.slice ha hn hc); refine (clone_any ha hn hc hi _ ?_).mono ?_; exact kh.out _ B1.out.1; rintro e w2 ⟨ao2, n2, d2, rfl, k2, hb2, l2⟩; have L2 : Hid (∀ x, ao2 = some x → w.heap.size + 2 ≤ x.block) := fun x hx => by {have := l2 x hx; have h2 := B1.out.2; omega}; obtain ⟨B2, e2, e3, e4, e5⟩ := after18b B1.out hb2 a2 a3 a4 a5; have K2 : Hid (KS w2 ao2 n2 d2 hi) := k2; have K3 : Hid (KS w2 ao1 n1 d1 lo) := K1.out.below hb2; clear k2 hb2 l2))
  all_goals
    have hc2 : ∀ v v', ((w2.setCell ⟨w.heap.size + 1, 0, none⟩ v).setCell ⟨w.heap.size + 1, 1, none⟩ v').cell? ⟨w.heap.size + 1, 0, none⟩ = some v := fun v v' => by
      rw [World.cell?_setCell_other _ _ _ _ (by simp), World.cell?_setCell_same _ _ _ e2]
    have hc3 : ∀ v v', ((w2.setCell ⟨w.heap.size + 1, 0, none⟩ v).setCell ⟨w.heap.size + 1, 1, none⟩ v').cell? ⟨w.heap.size + 1, 1, none⟩ = some v' := fun v v' => by
      rw [World.cell?_setCell_same _ _ _ (by rw [World.cell?_setCell_other _ _ _ _ (by simp)]; exact e3)]
    go_wp2
    refine bodyPost_ret (v := .agg #[.slice ao1 n1 d1, .slice ao2 n2 d2]) (by simp [results, Try.results18, go_sem, hc2, hc3]) rfl ⟨ao1, n1, d1, ao2, n2, d2, rfl, ?_, ?_, ?_, ?_, ?_⟩
    · exact (K3.out.setCell _ _ (fun x hx => by have := L1.out x hx; simp; omega)).setCell _ _ (fun x hx => by have := L1.out x hx; simp; omega)
    · exact (K2.out.setCell _ _ (fun x hx => by have := L2.out x hx; simp; omega)).setCell _ _ (fun x hx => by have := L2.out x hx; simp; omega)
    · exact (B2.out.1.setCell (by simp) _).setCell (by simp) _
    · exact fun x hx => by have := L1.out x hx; omega
    · exact fun x hx => by have := L2.out x hx; omega
end Go.Proofs.Qxb6616471a
