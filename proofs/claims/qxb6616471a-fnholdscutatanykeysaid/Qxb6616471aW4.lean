import Derived.Test.Qxb6616471aW3
namespace Go.Proofs.Qxb6616471a
open Go.RowKit

/-- A slice of ranges as it lies in the world. -/
def RS (w : World) (ao : Option Addr) (n : Nat) (L : List (Option (List UInt8) × Option (List UInt8))) : Prop :=
  L.length = n ∧ n ≤ 1048576 ∧ ∀ i, i < n → ∃ b off la ln lc ha hn hc, ao = some ⟨b, off, none⟩ ∧ w.cell? ⟨b, off + i * 2, none⟩ = some (.slice la ln lc) ∧ w.cell? ⟨b, off + i * 2 + 1, none⟩ = some (.slice ha hn hc) ∧
    KS w la ln lc (L.getD i (none, none)).1 ∧ KS w ha hn hc (L.getD i (none, none)).2

theorem RS.below {w w' : World} {ao : Option Addr} {n : Nat} {L : List (Option (List UInt8) × Option (List UInt8))} (h : RS w ao n L) (hb : Below w.heap.size w w') : RS w' ao n L := by
  refine ⟨h.1, h.2.1, fun i hi => ?_⟩
  obtain ⟨b, off, la, ln, lc, ha, hn, hc, e, h1, h2, h3, h4⟩ := h.2.2 i hi
  exact ⟨b, off, la, ln, lc, ha, hn, hc, e, cell_later hb h1, cell_later hb h2, h3.below hb, h4.below hb⟩

def RetChain (L : List (Option (List UInt8) × Option (List UInt8))) (e : Ending) : Prop := ∃ r : Bool, e = .returned (.bool r) ∧ (r = true → Chain L L.length)

set_option maxHeartbeats 400000 in
theorem chain_any (ao : Option Addr) (n c : Nat) (L : List (Option (List UInt8) × Option (List UInt8))) (w : World) (h : RS w ao n L) :
    Calls Try.prog 14 #[.slice ao n c] w fun e w' => RetChain L e ∧ Below w.heap.size w w' := by
  have q35 := eq35
  have hnn := h.2.1
  have HL : Hid (L.length = n) := h.1
  go_enter Try.func14, Try.ntmps14
  go_wp2
  go_loopw [3] (fun i wr => ∃ k : Nat, k ≤ n ∧ i = .int .i64 k ∧ Hid (Below w.heap.size w wr) ∧ Hid (Chain L k)) (fun i _ => n - (intOf i).toNat)
  case atStart => exact ⟨0, Nat.zero_le _, rfl, Below.refl _ _, ⟨fun i hi => absurd hi (by omega), fun i hi => absurd hi (by omega)⟩⟩
  case round =>
    obtain ⟨k, hk, rfl, hbel, hch⟩ := hrel
    by_cases hlt : k < n
    · obtain ⟨b, off, la, ln, lc, ha, hn, hc, rfl, g1, g2, k1, k2⟩ := (h.below hbel.out).2.2 k hlt
      have hkn : (k : Int) < (n : Int) := by omega
      by_cases hne : nonE (L.getD k (none, none)) = true
      · have HN : Hid (nonE ((L.getD k (none, none)).1, (L.getD k (none, none)).2) = true) := hne
        clear hne
        by_cases h0 : 0 < k
        · obtain ⟨b', off', la', ln', lc', ha', hn', hc', e', g1', g2', k1', k2'⟩ := (h.below hbel.out).2.2 (k - 1) (by omega)
          simp only [Option.some.injEq, Addr.mk.injEq, and_true] at e'
          obtain ⟨rfl, rfl⟩ := e'
          clear h g1' k1'
          have i1 : (0 : Int) ≤ (k : Int) - 1 := by omega
          have i2 : (k : Int) - 1 < (n : Int) := by omega
          have i3 : ((k : Int) - 1).toNat = k - 1 := by omega
          go_wp2_with (go_at_call 22; refine (nonEmpty_any _ _ _ _ _ _ _ _ _ k1 k2).mono ?_; rintro e w' ⟨rfl, hb'⟩; rw [HN.out])
          have G1 := cell_later hb' g1
          have G2 := cell_later hb' g2
          have G3 := cell_later hb' g2'
          have K1 := k1.below hb'
          have K2 := k2'.below hb'
          clear g1 g2 g2' k1 k2 k2'
          have HB : Hid (Below w.heap.size w w') := hbel.out.trans (hb'.mono hbel.out.size)
          clear hb' hbel
          have HF : RetChain L (.returned (.bool false)) := ⟨false, rfl, fun h => by cases h⟩
          generalize hpk : L.getD k (none, none) = pk at *
          generalize hpj : L.getD (k - 1) (none, none) = pj at *
          obtain ⟨pk1, pk2⟩ := pk
          obtain ⟨pj1, pj2⟩ := pj
          have HPK : Hid (L.getD k (none, none) = (pk1, pk2)) := hpk
          have HPJ : Hid (L.getD (k - 1) (none, none) = (pj1, pj2)) := hpj
          clear hpk hpj
          simp only at K1 K2
          rcases K2 with ⟨rfl, rfl, rfl, rfl⟩ | ⟨x, zs, rfl, rfl, K2⟩
          · go_quiet (fail)
            go_wp2
            go_ret
            exact ⟨HF, below_drewN HB.out _⟩
          rcases K1 with ⟨rfl, rfl, rfl, rfl⟩ | ⟨y, zs', rfl, rfl, K1⟩
          · go_quiet (fail)
            go_wp2
            go_ret
            exact ⟨HF, below_drewN HB.out _⟩
          by_cases hcm : 0 ≤ cmpB zs zs'
          · go_quiet ((go_at_call 15; exact Calls.quiet_of (cmp_any _ _ _ _ _ _ _ _ _ K2 K1)))
            go_wp2
            go_ret
            exact ⟨HF, below_drewN HB.out _⟩
          · go_quiet ((go_at_call 15; exact Calls.quiet_of (cmp_any _ _ _ _ _ _ _ _ _ K2 K1)))
            have HC : Hid (Chain L (k + 1)) := by
              refine ⟨fun i hi => ?_, fun i hi => ?_⟩
              · by_cases hik : i < k
                · exact hch.out.1 i hik
                · have : i = k := by omega
                  subst this
                  rw [HPK.out]; exact HN.out
              · by_cases hik : i + 1 < k
                · exact hch.out.2 i hik
                · have hi1 : i + 1 = k := by omega
                  have hi2 : i = k - 1 := by omega
                  rw [hi1, hi2, HPK.out, HPJ.out]
                  exact ⟨zs, zs', rfl, rfl, by omega⟩
            go_wp2
            go_roundw
            case rel => exact ⟨k + 1, by omega, by go_num, below_drewN HB.out _, HC⟩
            case measure => simp [intOf]; omega
        · obtain rfl : k = 0 := by omega
          simp only [Nat.zero_mul, Nat.add_zero] at g1 g2
          go_wp2_with (go_at_call 22; refine (nonEmpty_any _ _ _ _ _ _ _ _ _ k1 k2).mono ?_; rintro e w' ⟨rfl, hb'⟩; rw [HN.out])
          have HB : Hid (Below w.heap.size w w') := hbel.out.trans (hb'.mono hbel.out.size)
          go_roundw
          case rel => exact ⟨1, by omega, rfl, HB, ⟨fun i hi => by obtain rfl : i = 0 := by omega
                                                                   exact HN.out, fun i hi => absurd hi (by omega)⟩⟩
          case measure => simp [intOf]; omega
      · have HN : Hid (nonE ((L.getD k (none, none)).1, (L.getD k (none, none)).2) = false) := Bool.eq_false_iff.2 hne
        clear hne
        have HF : RetChain L (.returned (.bool false)) := ⟨false, rfl, fun h => by cases h⟩
        go_wp2_with (go_at_call 22; refine (nonEmpty_any _ _ _ _ _ _ _ _ _ k1 k2).mono ?_; rintro e w' ⟨rfl, hb'⟩; rw [HN.out])
        go_ret
        exact ⟨HF, hbel.out.trans (hb'.mono hbel.out.size)⟩
    · have HT : RetChain L (.returned (.bool true)) := ⟨true, rfl, fun _ => by rw [HL.out, show n = k by omega]; exact hch.out⟩
      go_wp2
      go_ret
      exact ⟨HT, hbel.out⟩
end Go.Proofs.Qxb6616471a
