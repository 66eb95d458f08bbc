import Derived.Test.Qxb6617683aW2
namespace Go.Proofs.Qxb6617683a
open Go.RowKit

/-- The cells of n fields, one behind the other. -/
def cellsL (F : Nat → Fld) (n : Nat) : List Value := (List.range (n * 4)).map fun j => (F (j / 4)).cell (j % 4)
theorem cellsL_length (F : Nat → Fld) (n : Nat) : (cellsL F n).length = n * 4 := by simp [cellsL]
theorem cellsL_get (F : Nat → Fld) (n j : Nat) (h : j < n * 4) : (cellsL F n)[j]? = some ((F (j / 4)).cell (j % 4)) := by simp [cellsL, h]
theorem cell_one (f : Fld) (r : Nat) : (f.cell r).oneCell' = true := by
  unfold Fld.cell
  split <;> rfl
theorem cellsL_one (F : Nat → Fld) (n : Nat) : ∀ u ∈ cellsL F n, u.oneCell' = true := by
  intro u hu
  obtain ⟨j, _, rfl⟩ := List.mem_map.1 hu
  exact cell_one _ _

/-- A clone that came back: nil of nil, else a row of its own. -/
def RetC (w : World) (ao : Option Addr) (n : Nat) (F : Nat → Fld) (e : Ending) (w' : World) : Prop :=
  Below w.heap.size w w' ∧ ((ao = none ∧ e = .returned (.slice none 0 0)) ∨ ∃ g cap, ao.isSome = true ∧ e = .returned (.slice (some ⟨g, 0, none⟩) n cap) ∧ w.heap.size ≤ g ∧ Own w' g n F)

theorem own_of_owns {w : World} {base : Nat} {v : Value} {n : Nat} {F : Nat → Fld} (h : w.ownsRow base 31 4 v n (cellsL F n)) (hv : v ≠ .slice none 0 0) :
    ∃ g cap, v = .slice (some ⟨g, 0, none⟩) n cap ∧ base ≤ g ∧ Own w g n F := by
  obtain ⟨_, h⟩ := h
  rcases h with ⟨h, _⟩ | ⟨g, cap, cur, e, hg, hh, hn, _, hs, ht⟩
  · exact absurd h hv
  · refine ⟨g, cap, e, hg, cap * 4, fun j => cur.getD j undef, ⟨cur, hh, hs, fun i hi => ?_⟩, by omega, fun i hi r hr => ?_⟩
    · have : i < cur.size := by omega
      simp [Array.getD, this]
    · have h1 : i * 4 + r < cur.size := by omega
      have h2 : (cur.toList.take (n * 4))[i * 4 + r]? = some ((F i).cell r) := by
        rw [ht, cellsL_get F n (i * 4 + r) (by omega), show (i * 4 + r) / 4 = i by omega, show (i * 4 + r) % 4 = r by omega]
      rw [List.getElem?_take, if_pos (by omega)] at h2
      simp [h1] at h2
      simp [Array.getD, h1, h2]

set_option maxHeartbeats 400000 in
theorem clone_any (ao : Option Addr) (n c : Nat) (F : Nat → Fld) (w : World) (hnn : n ≤ 65536) (h : FS w ao n F) :
    Calls Try.prog 13 #[.slice ao n c] w fun e w' => RetC w ao n F e w' := by
  have q26 : ∀ (w : World) (a : Option Addr) (n c n' c' : Nat), (binOp .eql 26 (.slice a n c) (.slice none n' c')).run Try.prog w = .ok (.bool a.isNone) w := fun w a n c n' c' => Lib.run_eql_slice_nil w 26 31 a n c n' c' Try.underlying26
  cases ao with
  | none =>
    go_enter Try.func13, Try.ntmps13
    go_wp2
    go_ret
    exact ⟨Below.refl _ _, .inl ⟨rfl, rfl⟩⟩
  | some ad =>
  obtain ⟨i0, hi, hzz⟩ := Option.map_eq_some_iff.1 Try.info31
  simp only [Prod.mk.injEq] at hzz
  obtain ⟨hz, hs, hb⟩ := hzz
  have HI : Hid (Try.prog.info? 31 = some i0 ∧ i0.zero = some (.agg #[.string ⟨#[]⟩, .string ⟨#[]⟩, .bool false, .string ⟨#[]⟩]) ∧ i0.size = 4 ∧ i0.bytes = 56) := ⟨hi, hz, hs, hb⟩
  have HF : Hid (FS w (some ad) n F) := h
  clear hi hz hs hb h
  go_enter Try.func13, Try.ntmps13
  go_wp2_with (at_builtin; refine wpList_append_own _ rfl _ _ 26 rfl w.heap.size 31 i0 _ 4 56 Try.underlying26 HI.out.1 HI.out.2.1 HI.out.2.2.1 HI.out.2.2.2 rfl (by decide) _ _ _ rfl (World.ownsRow_made w #[] 0 (Nat.le_refl _) (Nat.zero_le _) (by simp)) ad n c (cellsL F n) rfl ?qc1 ?qc2 ?qc3 ?qc4 ?qc5 ?qc6 ?_)
  case qc1 => exact cellsL_length F n
  case qc2 =>
    intro j u hj
    have hj4 : j < n * 4 := by have := (List.getElem?_eq_some_iff.1 hj).1; rwa [cellsL_length] at this
    obtain ⟨b, off, e, hc⟩ := HF.out (j / 4) (by omega)
    cases e
    rw [cellsL_get F n j hj4] at hj
    rw [← Option.some.inj hj, Addr.add_lit]
    have := hc (j % 4) (by omega)
    rw [show off + j / 4 * 4 + j % 4 = off + j by omega] at this
    exact cell_later (below_alloc _ _) this
  case qc3 => exact cellsL_one F n
  case qc4 => rw [Nat.zero_add]; unfold maxLen; omega
  case qc5 => rw [Nat.zero_add]; omega
  case qc6 => simp
  intro v' w1 hown hgrow hnil
  have hv : v' ≠ .slice none 0 0 := hnil
  obtain ⟨g, cap, hv', hg, HO⟩ := own_of_owns (F := F) (n := n) (by simpa using hown) hv
  have HB : Hid (Below w.heap.size w w1) := ((Below.refl _ w).alloc (Nat.le_refl _) _).grown hgrow (by simp) (by intro k hk; simp [Value.ownBlock] at hk; omega)
  clear hown hgrow hnil hv
  rw [hv']
  go_wp2
  go_ret
  exact ⟨HB.out, .inr ⟨g, cap, rfl, rfl, hg, HO⟩⟩

set_option maxHeartbeats 1000000 in
theorem show_any (ao : Option Addr) (n c : Nat) (F : Nat → Fld) (w : World) (hnn : n ≤ 65536) (h : FS w ao n F) (h0 : ao = none → n = 0) :
    Calls Try.prog 8 #[.slice ao n c] w fun e w' => RetC w ao n (fun i => shown (F i)) e w' := by
  cases ao with
  | none =>
    obtain rfl := h0 rfl
    go_enter Try.func8, Try.ntmps8
    go_wp2_with fail
    refine (clone_any none 0 c F _ hnn h).mono ?_
    rintro e w1 ⟨hb, ⟨_, rfl⟩ | ⟨g, cap, e, _⟩⟩
    · go_wp2
      go_loop [10] (fun i => i = .int .i64 0) (fun _ => 0)
      case atStart => rfl
      case round =>
        subst hrel
        go_wp2
        go_ret
        exact ⟨hb, .inl ⟨rfl, rfl⟩⟩
    · cases e
  | some ad =>
  go_enter Try.func8, Try.ntmps8
  go_wp2_with fail
  refine (clone_any (some ad) n c F _ hnn h).mono ?_
  rintro e w1 ⟨hb, ⟨e, _⟩ | ⟨g, cap, _, rfl, hg, ho⟩⟩
  · cases e
  have HB1 : Hid (Below w.heap.size w w1) := hb
  have HO1 : Hid (Own w1 g n F) := ho
  clear hb ho h h0
  go_wp2
  go_loopw [10] (fun i wr => ∃ k : Nat, k ≤ n ∧ i = .int .i64 k ∧ Hid (Below w.heap.size w wr) ∧ Hid (Own wr g n (fun i => if i < k then shown (F i) else F i))) (fun i _ => n - (intOf i).toNat)
  case atStart => exact ⟨0, Nat.zero_le _, rfl, HB1.out, own_congr HO1.out (fun i _ => by rw [if_neg (by omega)])⟩
  case round =>
    obtain ⟨k, hk, rfl, hbel, hown⟩ := hrel
    by_cases hlt : k < n
    · obtain ⟨z0, y0⟩ := hown.out.place k hlt 0 (by omega)
      obtain ⟨z1, y1⟩ := hown.out.place k hlt 1 (by omega)
      obtain ⟨z2, y2⟩ := hown.out.place k hlt 2 (by omega)
      obtain ⟨z3, y3⟩ := hown.out.place k hlt 3 (by omega)
      rw [if_neg (Nat.lt_irrefl k)] at z0 z1 z2 z3
      simp only [Nat.add_zero, Fld.cell] at z0 y0 z1 z2 z3
      have hgs : g < wr.heap.size := World.block_lt_of_cell? _ _ z0
      have hkn : (k : Int) < (n : Int) := by omega
      obtain ⟨fk, HFK⟩ : ∃ fk, Hid (fk = F k) := ⟨_, rfl⟩
      rw [← HFK.out] at z0 z1 z2 z3
      clear y0 y2 y3
      cases hp : fk.p.toList.isEmpty with
      | true =>
        have HS : Hid (shown fk = fk) := if_pos hp
        go_wp2
        go_roundw
        case rel =>
          refine ⟨k + 1, by omega, by go_num, hbel.out.alloc hbel.out.size _, own_congr (hown.out.below (below_alloc _ _)) (fun i hi => ?_)⟩
          by_cases hik : i < k
          · rw [if_pos hik, if_pos (by omega)]
          · rw [if_neg hik]
            by_cases hik2 : i = k
            · subst hik2; rw [if_pos (by omega), ← HFK.out]; exact HS.out.symm
            · rw [if_neg (by omega)]
        case measure => simp [intOf]; omega
      | false =>
        have HS : Hid (shown fk = { fk with v := fk.p }) := if_neg (by rw [hp]; simp)
        go_wp2
        go_roundw
        case rel =>
          have b1 : Below w.heap.size w (wr.setCell ⟨g, k * 4 + 1, none⟩ (.string fk.p)) := hbel.out.setCell hg _
          refine ⟨k + 1, by omega, by go_num, b1.alloc b1.size _, own_congr ((hown.out.set k 1 (by omega) { fk with v := fk.p } (fun s hs hs1 => ?_)).below (below_alloc _ _)) (fun i hi => ?_)⟩
          · rw [if_neg (Nat.lt_irrefl k), ← HFK.out]
            have : s = 0 ∨ s = 2 ∨ s = 3 := by omega
            rcases this with rfl | rfl | rfl <;> rfl
          · show (if i = k then ({ fk with v := fk.p } : Fld) else if i < k then shown (F i) else F i) = if i < k + 1 then shown (F i) else F i
            by_cases hik : i = k
            · subst hik; rw [if_pos rfl, if_pos (by omega), ← HFK.out]; exact HS.out.symm
            · rw [if_neg hik]
              by_cases hik2 : i < k
              · rw [if_pos hik2, if_pos (by omega)]
              · rw [if_neg hik2, if_neg (by omega)]
        case measure => simp [intOf]; omega
    · have HR := hown.out
      have HB := hbel.out
      go_wp2
      go_ret
      exact ⟨HB, .inr ⟨g, cap, rfl, rfl, hg, own_congr HR (fun i hi => by rw [if_pos (by omega)])⟩⟩
end Go.Proofs.Qxb6617683a
