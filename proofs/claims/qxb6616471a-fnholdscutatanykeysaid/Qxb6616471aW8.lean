import Derived.Test.Qxb6616471aW7
import Derived.Lib.BytesEntry
namespace Go.Proofs.Qxb6616471a
open Go.RowKit

theorem load_bs {w : World} {x : Addr} {n : Nat} {zs : List UInt8} (h : BS w (some x) n zs) : (Extern.Bytes.loadBytes x n .empty).run Try.prog w = .ok ⟨zs.toArray⟩ w := by
  have := Lib.run_loadBytesX (P := Try.prog) w (zs.map fun b => (b.toNat : Int)) x .empty (fun j v hj => by
    obtain ⟨b, hb, rfl⟩ : ∃ b, zs[j]? = some b ∧ (b.toNat : Int) = v := by simpa using hj
    have hjn : j < n := by have := (List.getElem?_eq_some_iff.1 hb).1; rw [h.1] at this; exact this
    obtain ⟨bk, off, e, hc⟩ := h.at j hjn
    cases e
    rw [Addr.add_lit, hc]
    simp [List.getD, hb])
  rw [List.length_map, h.1] at this
  rw [this]
  have he : (⟨ByteArray.empty.data ++ (Lib.bytesOf (zs.map fun b => (b.toNat : Int))).toArray⟩ : ByteArray) = ⟨zs.toArray⟩ := by
    apply ByteArray.ext
    show (#[] : Array UInt8) ++ _ = _
    have e2 : Lib.bytesOf (zs.map fun b => (b.toNat : Int)) = zs := by
      unfold Lib.bytesOf
      rw [List.map_map]
      conv => rhs; rw [← List.map_id zs]
      refine List.map_congr_left fun b _ => ?_
      simp
    rw [e2]
    simp
  rw [he]

theorem run_compare {w : World} {x y : Addr} {n c m d : Nat} {xs ys : List UInt8} (hx : BS w (some x) n xs) (hy : BS w (some y) m ys) :
    (Extern.BytealgCompare.compare #[.slice (some x) n c, .slice (some y) m d]).run Try.prog w = .ok (.int .i64 (cmpB xs ys)) w := by
  change Sem.run Try.prog (do pure (goInt (Extern.BytealgCompare.cmp (← Extern.Bytes.loadBytes x n .empty) (← Extern.Bytes.loadBytes y m .empty)))) w = _
  simp only [Sem.run_bind, Sem.run_pure, Result.andThen, load_bs hx, load_bs hy]
  rw [Lib.cmp_eq]
  rfl

set_option maxHeartbeats 400000 in
theorem compare_any (x y : Addr) (n c m d : Nat) (xs ys : List UInt8) (w : World) (hx : BS w (some x) n xs) (hy : BS w (some y) m ys) :
    Calls Try.prog 31 #[.slice (some x) n c, .slice (some y) m d] w fun e w' => e = .returned (.int .i64 (cmpB xs ys)) ∧ w' = w := by
  go_enter Try.func31, Try.ntmps31
  go_wp2
  rw [run_callFunc_extern Try.func32 (by kernel_rfl) (by kernel_rfl) (by kernel_rfl) (e := Extern.BytealgCompare.compare) (by kernel_rfl), run_compare hx hy]
  simp only [Result.andThen]
  rw [Oper.upon_value]
  go_wp2
  go_ret
  exact ⟨rfl, rfl⟩

set_option maxHeartbeats 400000 in
theorem contains_any (la ha : Option Addr) (ln lc hn hc : Nat) (la' ha' : Option Addr) (ln' lc' hn' hc' : Nat) (lo hi lo' hi' : Option (List UInt8)) (w : World)
    (h1 : KS w la ln lc lo) (h2 : KS w ha hn hc hi) (h3 : KS w la' ln' lc' lo') (h4 : KS w ha' hn' hc' hi') :
    Calls Try.prog 28 #[.agg #[.slice la ln lc, .slice ha hn hc], .agg #[.slice la' ln' lc', .slice ha' hn' hc']] w fun e w' => e = .returned (.bool (cont (lo, hi) (lo', hi'))) ∧ Below w.heap.size w w' := by
  have q35 := eq35
  have r35 := ne35
  have b2 : ∀ o o', Below w.heap.size w ((w.alloc o).alloc o') := fun o o' => (below_alloc _ _).alloc (by simp) _
  -- the low ends
  rcases h1 with ⟨rfl, rfl, rfl, rfl⟩ | ⟨x1, z1, rfl, rfl, h1⟩
  · rcases h2 with ⟨rfl, rfl, rfl, rfl⟩ | ⟨x2, z2, rfl, rfl, h2⟩
    · go_enter Try.func28, Try.ntmps28
      go_wp2
      go_ret
      exact ⟨rfl, b2 _ _⟩
    rcases h4 with ⟨rfl, rfl, rfl, rfl⟩ | ⟨x4, z4, rfl, rfl, h4⟩
    · go_enter Try.func28, Try.ntmps28
      go_wp2
      go_ret
      exact ⟨rfl, b2 _ _⟩
    have H2 := fun o o' => h2.below (b2 o o')
    have H4 := fun o o' => h4.below (b2 o o')
    have E : Hid (cont (none, some z2) (lo', some z4) = decide (cmpB z4 z2 ≤ 0)) := by simp [Hid, cont, loOk, hiOk]
    clear h2 h4 h3
    go_enter Try.func28, Try.ntmps28
    go_wp2_with (go_at_call 31; refine (compare_any _ _ _ _ _ _ _ _ _ (H4 _ _) (H2 _ _)).mono ?_; rintro e w' ⟨rfl, rfl⟩)
    go_ret
    rw [E.out]
    exact ⟨rfl, b2 _ _⟩
  rcases h3 with ⟨rfl, rfl, rfl, rfl⟩ | ⟨x3, z3, rfl, rfl, h3⟩
  · go_enter Try.func28, Try.ntmps28
    go_wp2
    go_ret
    exact ⟨rfl, b2 _ _⟩
  have H1 := fun o o' => h1.below (b2 o o')
  have H3 := fun o o' => h3.below (b2 o o')
  clear h1 h3
  by_cases hlow : cmpB z1 z3 ≤ 0
  · rcases h2 with ⟨rfl, rfl, rfl, rfl⟩ | ⟨x2, z2, rfl, rfl, h2⟩
    · have E : Hid (cont (some z1, none) (some z3, hi') = true) := by simp [Hid, cont, loOk, hiOk, hlow]
      go_enter Try.func28, Try.ntmps28
      go_wp2_with (go_at_call 31; refine (compare_any _ _ _ _ _ _ _ _ _ (H1 _ _) (H3 _ _)).mono ?_; rintro e w' ⟨rfl, rfl⟩)
      go_ret
      rw [E.out]
      exact ⟨rfl, b2 _ _⟩
    rcases h4 with ⟨rfl, rfl, rfl, rfl⟩ | ⟨x4, z4, rfl, rfl, h4⟩
    · have E : Hid (cont (some z1, some z2) (some z3, none) = false) := by simp [Hid, cont, hiOk]
      go_enter Try.func28, Try.ntmps28
      go_wp2_with (go_at_call 31; refine (compare_any _ _ _ _ _ _ _ _ _ (H1 _ _) (H3 _ _)).mono ?_; rintro e w' ⟨rfl, rfl⟩)
      go_ret
      rw [E.out]
      exact ⟨rfl, b2 _ _⟩
    have H2 := fun o o' => h2.below (b2 o o')
    have H4 := fun o o' => h4.below (b2 o o')
    have E : Hid (cont (some z1, some z2) (some z3, some z4) = decide (cmpB z4 z2 ≤ 0)) := by simp [Hid, cont, loOk, hiOk, hlow]
    clear h2 h4
    go_enter Try.func28, Try.ntmps28
    go_wp2_with fail
    refine (compare_any _ _ _ _ _ _ _ _ _ (H1 _ _) (H3 _ _)).mono ?_
    rintro e w' ⟨rfl, rfl⟩
    go_wp2_with fail
    refine (compare_any _ _ _ _ _ _ _ _ _ (H4 _ _) (H2 _ _)).mono ?_
    rintro e w' ⟨rfl, rfl⟩
    go_wp2
    go_ret
    rw [E.out]
    exact ⟨rfl, b2 _ _⟩
  · have E : Hid (cont (some z1, hi) (some z3, hi') = false) := by simp [Hid, cont, loOk, hlow]
    go_enter Try.func28, Try.ntmps28
    go_wp2_with (go_at_call 31; refine (compare_any _ _ _ _ _ _ _ _ _ (H1 _ _) (H3 _ _)).mono ?_; rintro e w' ⟨rfl, rfl⟩)
    go_ret
    rw [E.out]
    exact ⟨rfl, b2 _ _⟩
end Go.Proofs.Qxb6616471a
