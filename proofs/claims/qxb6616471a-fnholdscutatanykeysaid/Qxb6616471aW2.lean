import Derived.Test.Qxb6616471aW1
import Derived.Deep.Draws
namespace Go.Proofs.Qxb6616471a
open Go.RowKit

/-- A byte slice as it lies in the world: `ao` its address, `n` its length, `zs` its bytes. -/
def BS (w : World) (ao : Option Addr) (n : Nat) (zs : List UInt8) : Prop :=
  zs.length = n ∧ n ≤ 1048576 ∧ ∀ i, i < n → ∃ b off, ao = some ⟨b, off, none⟩ ∧ w.cell? ⟨b, off + i, none⟩ = some (.int .u8 ((zs.getD i 0).toNat : Int))

theorem BS.at {w : World} {ao : Option Addr} {n : Nat} {zs : List UInt8} (h : BS w ao n zs) (i : Nat) (hi : i < n) : ∃ b off, ao = some ⟨b, off, none⟩ ∧ w.cell? ⟨b, off + i, none⟩ = some (.int .u8 ((zs.getD i 0).toNat : Int)) := h.2.2 i hi

theorem ret_int {k : IntKind} {a b : Int} (h : a = b) : Ending.returned (.int k a) = .returned (.int k b) := by rw [h]

set_option maxHeartbeats 400000 in
theorem cmp_any (ao bo : Option Addr) (n c m d : Nat) (xs ys : List UInt8) (w : World) (hx : BS w ao n xs) (hy : BS w bo m ys) :
    Calls Try.prog 15 #[.slice ao n c, .slice bo m d] w fun e w' => e = .returned (.int .i64 (cmpB xs ys)) ∧ ∃ q, w' = w.drewN q := by
  have hnx := hx.2.1
  have hny := hy.2.1
  have HX : Hid (xs.length = n) := hx.1
  have HY : Hid (ys.length = m) := hy.1
  by_cases hmn : (m : Int) < (n : Int)
  · go_enter Try.func15, Try.ntmps15
    go_wp2
    go_loopw [6] (fun i wr => ∃ k q : Nat, k ≤ m ∧ i = .int .i64 k ∧ wr = w.drewN q ∧ Hid (cmpB (xs.drop k) (ys.drop k) = cmpB xs ys)) (fun i _ => m - (intOf i).toNat)
    case atStart => exact ⟨0, 0, Nat.zero_le _, rfl, rfl, rfl⟩
    case round =>
      obtain ⟨k, q, hk, rfl, rfl, hrel⟩ := hrel
      by_cases hlt : k < m
      · obtain ⟨b1, o1, rfl, g1⟩ := hx.at k (by omega)
        obtain ⟨b2, o2, rfl, g2⟩ := hy.at k (by omega)
        have hst : Hid (cmpB (xs.drop k) (ys.drop k) = if xs.getD k 0 < ys.getD k 0 then -1 else if ys.getD k 0 < xs.getD k 0 then 1 else cmpB (xs.drop (k + 1)) (ys.drop (k + 1))) := cmpB_drop xs ys k (by rw [HX.out]; omega) (by rw [HY.out]; omega)
        clear hx hy
        generalize xs.getD k 0 = x at g1 hst
        generalize ys.getD k 0 = y at g2 hst
        have hkn : (k : Int) < (n : Int) := by omega
        have hkm : (k : Int) < (m : Int) := by omega
        by_cases hxy : (x.toNat : Int) < (y.toNat : Int)
        · have HR : Hid (cmpB xs ys = -1) := by
            have h1 := hrel.out; have h2 := hst.out
            rw [if_pos (by rw [UInt8.lt_iff_toNat_lt]; omega)] at h2
            exact (h1.symm.trans h2)
          go_wp2
          go_quiet (fail)
          go_wp2
          go_ret
          exact ⟨ret_int HR.out.symm, _, by rw [World.drewN_drewN]⟩
        by_cases hyx : (y.toNat : Int) < (x.toNat : Int)
        · have HR : Hid (cmpB xs ys = 1) := by
            have h1 := hrel.out; have h2 := hst.out
            rw [if_neg (by rw [UInt8.lt_iff_toNat_lt]; omega), if_pos (by rw [UInt8.lt_iff_toNat_lt]; omega)] at h2
            exact (h1.symm.trans h2)
          go_wp2
          go_quiet (fail)
          go_wp2
          go_quiet (fail)
          go_wp2
          go_ret
          exact ⟨ret_int HR.out.symm, _, by rw [World.drewN_drewN, World.drewN_drewN]⟩
        · have HR : Hid (cmpB (xs.drop (k + 1)) (ys.drop (k + 1)) = cmpB xs ys) := by
            have h1 := hrel.out; have h2 := hst.out
            rw [if_neg (by rw [UInt8.lt_iff_toNat_lt]; omega), if_neg (by rw [UInt8.lt_iff_toNat_lt]; omega)] at h2
            exact (h2.symm.trans h1)
          go_wp2
          go_quiet (fail)
          go_wp2
          go_quiet (fail)
          go_wp2
          go_roundw
          case rel => exact ⟨k + 1, _, by omega, by go_num, rfl, HR⟩
          case measure => simp [intOf]; omega
      · have hst : Hid (cmpB xs ys = if n < m then -1 else if m < n then 1 else 0) := by
          have h2 := cmpB_end xs ys k (by rw [HX.out, HY.out]; omega) (by rw [HX.out]; omega) (by rw [HY.out]; omega)
          rw [HX.out, HY.out] at h2
          exact hrel.out.symm.trans h2
        clear hx hy
        have HR : Hid (cmpB xs ys = 1) := by
          have h2 := hst.out
          rw [if_neg (by omega), if_pos (by omega)] at h2
          exact h2
        clear hst
        go_wp2
        go_ret
        exact ⟨ret_int HR.out.symm, _, rfl⟩
  · go_enter Try.func15, Try.ntmps15
    go_wp2
    go_loopw [6] (fun i wr => ∃ k q : Nat, k ≤ n ∧ i = .int .i64 k ∧ wr = w.drewN q ∧ Hid (cmpB (xs.drop k) (ys.drop k) = cmpB xs ys)) (fun i _ => n - (intOf i).toNat)
    case atStart => exact ⟨0, 0, Nat.zero_le _, rfl, rfl, rfl⟩
    case round =>
      obtain ⟨k, q, hk, rfl, rfl, hrel⟩ := hrel
      by_cases hlt : k < n
      · obtain ⟨b1, o1, rfl, g1⟩ := hx.at k (by omega)
        obtain ⟨b2, o2, rfl, g2⟩ := hy.at k (by omega)
        have hst : Hid (cmpB (xs.drop k) (ys.drop k) = if xs.getD k 0 < ys.getD k 0 then -1 else if ys.getD k 0 < xs.getD k 0 then 1 else cmpB (xs.drop (k + 1)) (ys.drop (k + 1))) := cmpB_drop xs ys k (by rw [HX.out]; omega) (by rw [HY.out]; omega)
        clear hx hy
        generalize xs.getD k 0 = x at g1 hst
        generalize ys.getD k 0 = y at g2 hst
        have hkn : (k : Int) < (n : Int) := by omega
        have hkm : (k : Int) < (m : Int) := by omega
        by_cases hxy : (x.toNat : Int) < (y.toNat : Int)
        · have HR : Hid (cmpB xs ys = -1) := by
            have h1 := hrel.out; have h2 := hst.out
            rw [if_pos (by rw [UInt8.lt_iff_toNat_lt]; omega)] at h2
            exact (h1.symm.trans h2)
          go_wp2
          go_quiet (fail)
          go_wp2
          go_ret
          exact ⟨ret_int HR.out.symm, _, by rw [World.drewN_drewN]⟩
        by_cases hyx : (y.toNat : Int) < (x.toNat : Int)
        · have HR : Hid (cmpB xs ys = 1) := by
            have h1 := hrel.out; have h2 := hst.out
            rw [if_neg (by rw [UInt8.lt_iff_toNat_lt]; omega), if_pos (by rw [UInt8.lt_iff_toNat_lt]; omega)] at h2
            exact (h1.symm.trans h2)
          go_wp2
          go_quiet (fail)
          go_wp2
          go_quiet (fail)
          go_wp2
          go_ret
          exact ⟨ret_int HR.out.symm, _, by rw [World.drewN_drewN, World.drewN_drewN]⟩
        · have HR : Hid (cmpB (xs.drop (k + 1)) (ys.drop (k + 1)) = cmpB xs ys) := by
            have h1 := hrel.out; have h2 := hst.out
            rw [if_neg (by rw [UInt8.lt_iff_toNat_lt]; omega), if_neg (by rw [UInt8.lt_iff_toNat_lt]; omega)] at h2
            exact (h2.symm.trans h1)
          go_wp2
          go_quiet (fail)
          go_wp2
          go_quiet (fail)
          go_wp2
          go_roundw
          case rel => exact ⟨k + 1, _, by omega, by go_num, rfl, HR⟩
          case measure => simp [intOf]; omega
      · have hst : Hid (cmpB xs ys = if n < m then -1 else if m < n then 1 else 0) := by
          have h2 := cmpB_end xs ys k (by rw [HX.out, HY.out]; omega) (by rw [HX.out]; omega) (by rw [HY.out]; omega)
          rw [HX.out, HY.out] at h2
          exact hrel.out.symm.trans h2
        clear hx hy
        by_cases hnm : (n : Int) < (m : Int)
        · have HR : Hid (cmpB xs ys = -1) := by
            have h2 := hst.out
            rw [if_pos (by omega)] at h2
            exact h2
          clear hst
          go_wp2
          go_ret
          exact ⟨ret_int HR.out.symm, _, rfl⟩
        · have HR : Hid (cmpB xs ys = 0) := by
            have h2 := hst.out
            rw [if_neg (by omega), if_neg (by omega)] at h2
            exact h2
          clear hst
          go_wp2
          go_ret
          exact ⟨ret_int HR.out.symm, _, rfl⟩
end Go.Proofs.Qxb6616471a
