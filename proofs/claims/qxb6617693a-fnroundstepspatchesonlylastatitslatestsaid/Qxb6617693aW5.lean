import Derived.Test.Qxb6617693aW4
namespace Go.Proofs.Qxb6617693a
open Go.RowKit

/-- The cells of n steps, one behind the other. -/
def cellsL (F : Nat → Stp) (n : Nat) : List Value := (List.range (n * 8)).map fun j => (F (j / 8)).cell (j % 8)
theorem cellsL_length (F : Nat → Stp) (n : Nat) : (cellsL F n).length = n * 8 := by simp [cellsL]
theorem cellsL_get (F : Nat → Stp) (n j : Nat) (h : j < n * 8) : (cellsL F n)[j]? = some ((F (j / 8)).cell (j % 8)) := by simp [cellsL, h]
theorem cell_one (f : Stp) (r : Nat) : (f.cell r).oneCell' = true := by
  unfold Stp.cell
  split <;> rfl
theorem cellsL_one (F : Nat → Stp) (n : Nat) : ∀ u ∈ cellsL F n, u.oneCell' = true := by
  intro u hu
  obtain ⟨j, _, rfl⟩ := List.mem_map.1 hu
  exact cell_one _ _

theorem own_of_owns {w : World} {base : Nat} {v : Value} {n : Nat} {F : Nat → Stp} (h : w.ownsRow base 37 8 v n (cellsL F n)) (hv : v ≠ .slice none 0 0) :
    ∃ g cap, v = .slice (some ⟨g, 0, none⟩) n cap ∧ base ≤ g ∧ Own w g n F := by
  obtain ⟨_, h⟩ := h
  rcases h with ⟨h, _⟩ | ⟨g, cap, cur, e, hg, hh, hn, _, hs, ht⟩
  · exact absurd h hv
  · refine ⟨g, cap, e, hg, cap * 8, fun j => cur.getD j undef, ⟨cur, hh, hs, fun i hi => ?_⟩, by omega, fun i hi r hr => ?_⟩
    · have : i < cur.size := by omega
      simp [Array.getD, this]
    · have h1 : i * 8 + r < cur.size := by omega
      have h2 : (cur.toList.take (n * 8))[i * 8 + r]? = some ((F i).cell r) := by
        rw [ht, cellsL_get F n (i * 8 + r) (by omega), show (i * 8 + r) / 8 = i by omega, show (i * 8 + r) % 8 = r by omega]
      rw [List.getElem?_take, if_pos (by omega)] at h2
      simp [h1] at h2
      simp [Array.getD, h1, h2]

set_option maxHeartbeats 400000 in
theorem clone_any (ad : Addr) (n c : Nat) (F : Nat → Stp) (w : World) (hnn : n ≤ 65536) (h : SS w (some ad) n F) :
    Calls Try.prog 14 #[.slice (some ad) n c] w fun e w' => ∃ g cap, e = .returned (.slice (some ⟨g, 0, none⟩) n cap) ∧ w.heap.size ≤ g ∧ Own w' g n F ∧ Below w.heap.size w w' := by
  have q26 : ∀ (w : World) (a : Option Addr) (n c n' c' : Nat), (binOp .eql 26 (.slice a n c) (.slice none n' c')).run Try.prog w = .ok (.bool a.isNone) w := fun w a n c n' c' => Lib.run_eql_slice_nil w 26 37 a n c n' c' Try.underlying26
  obtain ⟨i0, hi, hzz⟩ := Option.map_eq_some_iff.1 Try.info37
  simp only [Prod.mk.injEq] at hzz
  obtain ⟨hz, hs, hb⟩ := hzz
  have HI : Hid (Try.prog.info? 37 = some i0 ∧ i0.zero = some (.agg #[.int .i64 0, .string ⟨#[]⟩, .slice none 0 0, .slice none 0 0, .slice none 0 0, .int .i64 0, .slice none 0 0, .slice none 0 0]) ∧ i0.size = 8 ∧ i0.bytes = 152) := ⟨hi, hz, hs, hb⟩
  have HF : Hid (SS w (some ad) n F) := h
  clear hi hz hs hb h
  go_enter Try.func14, Try.ntmps14
  go_wp2_with (at_builtin; refine wpList_append_own _ rfl _ _ 26 rfl w.heap.size 37 i0 _ 8 152 Try.underlying26 HI.out.1 HI.out.2.1 HI.out.2.2.1 HI.out.2.2.2 rfl (by decide) _ _ _ rfl (World.ownsRow_made w #[] 0 (Nat.le_refl _) (Nat.zero_le _) (by simp)) ad n c (cellsL F n) rfl ?qc1 ?qc2 ?qc3 ?qc4 ?qc5 ?qc6 ?_)
  case qc1 => exact cellsL_length F n
  case qc2 =>
    intro j u hj
    have hj8 : j < n * 8 := by have := (List.getElem?_eq_some_iff.1 hj).1; rwa [cellsL_length] at this
    obtain ⟨b, off, e, hc⟩ := HF.out (j / 8) (by omega)
    cases e
    rw [cellsL_get F n j hj8] at hj
    rw [← Option.some.inj hj, Addr.add_lit]
    have := hc (j % 8) (by omega)
    rw [show off + j / 8 * 8 + j % 8 = off + j by omega] at this
    exact cell_later (below_alloc _ _) this
  case qc3 => exact cellsL_one F n
  case qc4 => rw [Nat.zero_add]; unfold maxLen; omega
  case qc5 => rw [Nat.zero_add]; omega
  case qc6 => simp
  intro v' w1 hown hgrow hnil
  obtain ⟨g, cap, hv', hg, HO⟩ := own_of_owns (F := F) (n := n) (by simpa using hown) hnil
  have HB : Hid (Below w.heap.size w w1) := ((Below.refl _ w).alloc (Nat.le_refl _) _).grown hgrow (by simp) (by intro k hk; simp [Value.ownBlock] at hk; omega)
  clear hown hgrow hnil
  rw [hv']
  go_wp2
  go_ret
  exact ⟨g, cap, rfl, hg, HO, HB.out⟩

set_option maxHeartbeats 400000 in
theorem make_any (oa : Option Addr) (on oc : Nat) (pa : Option Addr) (pn pc : Nat) (after bs bz pt : Int) (w : World) :
    Calls Try.prog 7 #[.slice oa on oc, .slice pa pn pc, .int .i64 after, .int .i64 bs, .int .i64 bz, .int .i64 pt] w fun e w' =>
      e = .returned (.agg #[.slice oa on oc, .slice pa pn pc, .int .i64 after, .int .i64 bs, .int .i64 bz, .int .i64 pt]) ∧ Below w.heap.size w w' := by
  go_enter Try.func7, Try.ntmps7
  go_wp2
  exact bodyPost_ret (v := .agg #[.slice oa on oc, .slice pa pn pc, .int .i64 after, .int .i64 bs, .int .i64 bz, .int .i64 pt]) (by simp [results, Try.results7, go_sem]) rfl ⟨rfl, below_alloc _ _⟩

set_option maxHeartbeats 400000 in
theorem patched_any (oa : Option Addr) (on oc : Nat) (pa : Option Addr) (pn pc : Nat) (after bs bz pt latest : Int) (w : World) :
    Calls Try.prog 13 #[.agg #[.slice oa on oc, .slice pa pn pc, .int .i64 after, .int .i64 bs, .int .i64 bz, .int .i64 pt], .int .i64 latest] w fun e w' =>
      e = .returned (.bool (!pa.isNone && (after == latest))) ∧ Below w.heap.size w w' := by
  have r23 : ∀ (w : World) (a : Option Addr) (n c n' c' : Nat), (binOp .neq 23 (.slice a n c) (.slice none n' c')).run Try.prog w = .ok (.bool (!a.isNone)) w := fun w a n c n' c' => run_neq_slice_nil_any w 23 5 a n c n' c' Try.underlying23
  cases pa with
  | none =>
    go_enter Try.func13, Try.ntmps13
    go_wp2
    go_ret
    exact ⟨rfl, below_alloc _ _⟩
  | some x =>
    go_enter Try.func13, Try.ntmps13
    go_wp2
    go_ret
    exact ⟨rfl, below_alloc _ _⟩

set_option maxHeartbeats 400000 in
/-- Not patched: the steps as they were recorded. -/
theorem steps_plain (oa : Option Addr) (on oc : Nat) (pa : Option Addr) (pn pc : Nat) (after bs bz pt latest : Int) (w : World) (hp : (!pa.isNone && (after == latest)) = false) :
    Calls Try.prog 8 #[.agg #[.slice oa on oc, .slice pa pn pc, .int .i64 after, .int .i64 bs, .int .i64 bz, .int .i64 pt], .int .i64 latest] w fun e w' =>
      e = .returned (.slice oa on oc) ∧ Below w.heap.size w w' := by
  have HP : Hid ((!pa.isNone && (after == latest)) = false) := hp
  clear hp
  go_enter Try.func8, Try.ntmps8
  go_wp2_with fail
  refine (patched_any oa on oc pa pn pc after bs bz pt latest _).mono ?_
  rintro e w1 ⟨rfl, hb⟩
  rw [HP.out]
  have B1 : Hid (Below w.heap.size w w1) := step_below (below_alloc _ _) hb
  have c0 : w1.cell? ⟨w.heap.size, 0, none⟩ = some (.slice oa on oc) := cell_later hb (by simp)
  clear hb
  go_wp2
  go_ret
  exact ⟨rfl, B1.out⟩

/-- The last step as a patched round gives it. -/
def lastPatched (F : Nat → Stp) (n : Nat) (p : Sl) (b : Int) : Nat → Stp := fun i => if i = n - 1 then { F (n - 1) with state := ⟨none, 0, 0⟩, patch := p, base := b } else F i

set_option maxHeartbeats 1000000 in
/-- Patched: a copy, its last step turned. -/
theorem steps_patched (ad : Addr) (n oc : Nat) (pa : Option Addr) (pn pc : Nat) (after bs bz pt : Int) (F : Nat → Stp) (w : World) (hp : pa.isNone = false) (hn : 0 < n) (hnn : n ≤ 65536) (h : SS w (some ad) n F) :
    Calls Try.prog 8 #[.agg #[.slice (some ad) n oc, .slice pa pn pc, .int .i64 after, .int .i64 bs, .int .i64 bz, .int .i64 pt], .int .i64 after] w fun e w' =>
      ∃ g cap, e = .returned (.slice (some ⟨g, 0, none⟩) n cap) ∧ w.heap.size ≤ g ∧ Own w' g n (lastPatched F n ⟨pa, pn, pc⟩ bs) ∧ Below w.heap.size w w' := by
  have HF : Hid (SS w (some ad) n F) := h
  have HP : Hid ((!pa.isNone && (after == after)) = true) := by rw [hp]; simp [Hid]
  clear h hp
  go_enter Try.func8, Try.ntmps8
  go_wp2_with fail
  refine (patched_any (some ad) n oc pa pn pc after bs bz pt after _).mono ?_
  rintro e w1 ⟨rfl, hb⟩
  rw [HP.out]
  have B1 : Hid (Below w.heap.size w w1) := step_below (below_alloc _ _) hb
  have c0 : w1.cell? ⟨w.heap.size, 0, none⟩ = some (.slice (some ad) n oc) := cell_later hb (by simp)
  have c1 : w1.cell? ⟨w.heap.size, 1, none⟩ = some (.slice pa pn pc) := cell_later hb (by simp)
  have c3 : w1.cell? ⟨w.heap.size, 3, none⟩ = some (.int .i64 bs) := cell_later hb (by simp)
  clear hb
  go_wp2_with fail
  refine (clone_any ad n oc F _ hnn (HF.out.below B1.out)).mono ?_
  rintro e w2 ⟨g, cap, rfl, hg, ho, hb⟩
  have B2 : Hid (Below w.heap.size w w2) := step_below B1.out hb
  have c0' := cell_later hb c0
  have c1' := cell_later hb c1
  have c3' := cell_later hb c3
  have hgw : w.heap.size < g := Nat.lt_of_lt_of_le (World.block_lt_of_cell? _ _ c0) hg
  clear hb c0 c1 c3
  have HO : Hid (Own w2 g n F) := ho
  clear ho
  obtain ⟨m, rfl⟩ : ∃ m, n = m + 1 := ⟨n - 1, by omega⟩
  obtain ⟨z3, y3⟩ := HO.out.place m (by omega) 3 (by omega)
  obtain ⟨z4, y4⟩ := HO.out.place m (by omega) 4 (by omega)
  obtain ⟨z5, y5⟩ := HO.out.place m (by omega) 5 (by omega)
  simp only [Stp.cell] at z3 z4 z5
  go_wp2
  go_region
  have HO3 : Hid (Own (((w2.setCell ⟨g, m * 8 + 3, none⟩ (.slice none 0 0)).setCell ⟨g, m * 8 + 4, none⟩ (.slice pa pn pc)).setCell ⟨g, m * 8 + 5, none⟩ (.int .i64 bs)) g (m + 1) (lastPatched F (m + 1) ⟨pa, pn, pc⟩ bs)) := HO.out.set3 m ⟨pa, pn, pc⟩ bs
  have HB3 : Hid (Below w.heap.size w (((w2.setCell ⟨g, m * 8 + 3, none⟩ (.slice none 0 0)).setCell ⟨g, m * 8 + 4, none⟩ (.slice pa pn pc)).setCell ⟨g, m * 8 + 5, none⟩ (.int .i64 bs))) := ((B2.out.setCell (Nat.le_of_lt hgw) _).setCell (Nat.le_of_lt hgw) _).setCell (Nat.le_of_lt hgw) _
  go_wp2
  go_ret
  exact ⟨g, cap, rfl, Nat.le_of_lt hgw, HO3.out, HB3.out.drew⟩
end Go.Proofs.Qxb6617693a
