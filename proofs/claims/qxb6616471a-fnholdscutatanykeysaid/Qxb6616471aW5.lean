import Derived.Test.Qxb6616471aW4
import Derived.Laws.CopyOwn
import Derived.Deep.OwnRows
namespace Go.Proofs.Qxb6616471a
open Go.RowKit

theorem Try.info5 : (Try.prog.info? 5).map (fun i => (i.zero, i.size, i.bytes)) = some (some (.int .u8 0), 1, 1) := by kernel_rfl
theorem Try.size5 : (Try.prog.info? 5).map (·.size) = some 1 := by kernel_rfl

/-- A slice value with its key, and what is behind it. -/
def RetKey (w : World) (k : Option (List UInt8)) (e : Ending) (w' : World) : Prop := ∃ ao n c, e = .returned (.slice ao n c) ∧ KS w' ao n c k ∧ Below w.heap.size w w' ∧ ∀ x, ao = some x → w.heap.size ≤ x.block

def u8s (zs : List UInt8) : List Value := zs.map fun b => .int .u8 (b.toNat : Int)

theorem u8s_length (zs : List UInt8) : (u8s zs).length = zs.length := by simp [u8s]
theorem u8s_get (zs : List UInt8) (i : Nat) (h : i < zs.length) : (u8s zs)[i]? = some (.int .u8 ((zs.getD i 0).toNat : Int)) := by simp [u8s, h, List.getD]
theorem u8s_at {zs : List UInt8} {i : Nat} {v : Value} (h : (u8s zs)[i]? = some v) : v = .int .u8 ((zs.getD i 0).toNat : Int) := by
  have hi : i < zs.length := by have := (List.getElem?_eq_some_iff.1 h).1; rwa [u8s_length] at this
  rw [u8s_get zs i hi] at h
  exact (Option.some.inj h).symm
theorem u8s_one (zs : List UInt8) : ∀ v ∈ u8s zs, v.oneCell' = true := by
  intro v hv
  obtain ⟨b, _, rfl⟩ := List.mem_map.1 hv
  rfl
theorem new_block (w : World) (l : Array Value) (t : TypeId) : (w.alloc (.cells l t)).heap[w.heap.size]? = some (.cells l.toList.toArray t (0, 0)) := by
  show (w.heap.push _)[w.heap.size]? = _
  simp
theorem splice_full {α : Type} (L cs : List α) (h : cs.length = L.length) : splice L 0 cs = cs := by simp [splice, h]
theorem cell_of_row {w : World} {g : Nat} {l : List Value} {t : TypeId} {fr : Nat × Nat} (h : w.heap[g]? = some (.cells l.toArray t fr)) {i : Nat} {v : Value} (hv : l[i]? = some v) : w.cell? ⟨g, 0 + i, none⟩ = some v := by
  simp [World.cell?, h, hv]

theorem KS.setCell {w : World} {ao : Option Addr} {n c : Nat} {k : Option (List UInt8)} (h : KS w ao n c k) (p : Addr) (v : Value) (hp : ∀ x, ao = some x → x.block ≠ p.block) : KS (w.setCell p v) ao n c k := by
  rcases h with h | ⟨x, zs, e1, e2, h⟩
  · exact .inl h
  · refine .inr ⟨x, zs, e1, e2, h.1, h.2.1, fun i hi => ?_⟩
    obtain ⟨b, off, e, hc⟩ := h.2.2 i hi
    refine ⟨b, off, e, ?_⟩
    rw [World.cell?_setCell_other _ _ _ _ ?_]
    · exact hc
    · intro e'
      have := hp x e1
      cases e
      exact this (congrArg Addr.block e').symm

set_option maxHeartbeats 400000 in
theorem clone_any (ao : Option Addr) (n c : Nat) (k : Option (List UInt8)) (w : World) (h : KS w ao n c k) :
    Calls Try.prog 23 #[.slice ao n c] w fun e w' => RetKey w k e w' := by
  have q35 := eq35
  rcases h with ⟨rfl, rfl, rfl, rfl⟩ | ⟨x, zs, rfl, rfl, h⟩
  · go_enter Try.func23, Try.ntmps23
    go_wp2
    go_ret
    exact ⟨none, 0, 0, rfl, .inl ⟨rfl, rfl, rfl, rfl⟩, Below.refl _ _, fun x hx => by cases hx⟩
  have hnn := h.2.1
  have HL : Hid (zs.length = n) := h.1
  have hmk := run_make_row' (P := Try.prog) 35 5 (.int .u8 0) 1 Try.underlying35 Try.info5 rfl .i64 .i64 n (by omega) (by omega)
  go_enter Try.func23, Try.ntmps23
  go_wp2_with (refine wpList_copy_splice rfl (.tmp 9) (.tmp 10) 35 35 rfl 5 Try.underlying35 Try.size5 _ _ _ _ _ _ rfl rfl w.heap.size 0 (madeCells #[.int .u8 0] n).toList 5 ?g1 (u8s zs) ?g2 ?g3 ?g4 ?g5 w.heap.size w ?g6 ?g7 ?next)
  case g1 => exact new_block _ _ _
  case g2 => rw [u8s_length, HL.out]; exact (Nat.min_self n).symm
  case g3 =>
    intro hpos j v hj
    have hjn : j < n := by have := (List.getElem?_eq_some_iff.1 hj).1; rw [u8s_length, HL.out] at this; exact this
    obtain ⟨b, off, e, hc⟩ := h.at j hjn
    cases e
    have hv : v = .int .u8 ((zs.getD j 0).toNat : Int) := u8s_at hj
    rw [hv, Addr.add_lit]
    exact cell_later (below_alloc _ _) hc
  case g4 => rw [u8s_length, HL.out, toList_madeCells_one]; simp
  case g5 => exact u8s_one _
  case g6 => exact below_alloc _ _
  case g7 => exact Nat.le_refl _
  intro w' hrow hbel
  have HK : KS w' (some ⟨w.heap.size, 0, none⟩) n n (some zs) := by
    refine .inr ⟨_, zs, rfl, rfl, HL.out, hnn, fun i hi => ⟨_, _, rfl, ?_⟩⟩
    have hr := hrow.out
    rw [splice_full _ _ (by rw [u8s_length, HL.out, toList_madeCells_one]; simp)] at hr
    exact cell_of_row hr (u8s_get zs i (by rw [HL.out]; exact hi))
  clear h
  go_wp2
  go_ret
  exact ⟨_, n, n, rfl, HK, hbel, fun x hx => by cases hx; exact Nat.le_refl _⟩
end Go.Proofs.Qxb6616471a
