import Derived.Test.Qxb6617683aW1
import Derived.Deep.OwnRows
import Derived.BigRegion
namespace Go.Proofs.Qxb6617683a
open Go.RowKit

theorem Try.info31 : (Try.prog.info? 31).map (fun i => (i.zero, i.size, i.bytes)) = some (some (.agg #[.string ⟨#[]⟩, .string ⟨#[]⟩, .bool false, .string ⟨#[]⟩]), 4, 56) := by kernel_rfl

/-- A row of n fields (and more room behind them) that the call made. -/
def Own (w : World) (g n : Nat) (F : Nat → Fld) : Prop := ∃ N f, w.rowIs g 31 N f ∧ n * 4 ≤ N ∧ ∀ i, i < n → ∀ r, r < 4 → f (i * 4 + r) = (F i).cell r

theorem Own.fs {w : World} {g n : Nat} {F : Nat → Fld} (h : Own w g n F) : FS w (some ⟨g, 0, none⟩) n F := by
  obtain ⟨N, f, hr, hN, hf⟩ := h
  intro i hi
  refine ⟨g, 0, rfl, fun r h4 => ?_⟩
  rw [Nat.zero_add, ← hf i hi r h4]
  exact hr.cell (by omega)

theorem Own.below {w w' : World} {g n : Nat} {F : Nat → Fld} (h : Own w g n F) (hb : Below w.heap.size w w') : Own w' g n F := by
  obtain ⟨N, f, hr, hN, hf⟩ := h
  exact ⟨N, f, hr.of_block (hb.block g hr.lt), hN, hf⟩

/-- What a store into field i, place r wants. -/
theorem Own.place {w : World} {g n : Nat} {F : Nat → Fld} (h : Own w g n F) (i : Nat) (hi : i < n) (r : Nat) (hr4 : r < 4) : w.cell? ⟨g, i * 4 + r, none⟩ = some ((F i).cell r) ∧ w.frozen? ⟨g, i * 4 + r, none⟩ = false := by
  obtain ⟨N, f, hr, hN, hf⟩ := h
  exact ⟨by rw [← hf i hi r hr4]; exact hr.cell (by omega), hr.frozen _⟩

/-- One place of one field stored. -/
theorem Own.set {w : World} {g n : Nat} {F : Nat → Fld} (h : Own w g n F) (i r : Nat) (hr4 : r < 4) (f' : Fld) (hf' : ∀ s, s < 4 → s ≠ r → f'.cell s = (F i).cell s) :
    Own (w.setCell ⟨g, i * 4 + r, none⟩ (f'.cell r)) g n (fun j => if j = i then f' else F j) := by
  obtain ⟨N, f, hr, hN, hf⟩ := h
  refine ⟨N, _, hr.set (i * 4 + r) _, hN, fun j hj s hs => ?_⟩
  by_cases hji : j = i
  · subst hji
    by_cases hsr : s = r
    · subst hsr; simp
    · show (if j * 4 + s = j * 4 + r then f'.cell r else f (j * 4 + s)) = (if j = j then f' else F j).cell s
      rw [if_neg (by omega), if_pos rfl, hf' s hs hsr]; exact hf j hj s hs
  · show (if j * 4 + s = i * 4 + r then f'.cell r else f (j * 4 + s)) = (if j = i then f' else F j).cell s
    rw [if_neg (by omega), if_neg hji]; exact hf j hj s hs

theorem own_congr {w : World} {g n : Nat} {F G : Nat → Fld} (h : Own w g n F) (e : ∀ i, i < n → F i = G i) : Own w g n G := by
  obtain ⟨N, f, hr, hN, hf⟩ := h
  exact ⟨N, f, hr, hN, fun i hi r hr' => by rw [← e i hi]; exact hf i hi r hr'⟩

/-- A whole field stored, place by place. -/
theorem Own.set4 {w : World} {g n : Nat} {F : Nat → Fld} (h : Own w g n F) (i : Nat) (x : Fld) :
    Own ((((w.setCell ⟨g, i * 4, none⟩ (.string x.n)).setCell ⟨g, i * 4 + 1, none⟩ (.string x.v)).setCell ⟨g, i * 4 + 2, none⟩ (.bool x.c)).setCell ⟨g, i * 4 + 3, none⟩ (.string x.p)) g n (fun j => if j = i then x else F j) := by
  obtain ⟨N, f, hr, hN, hf⟩ := h
  refine ⟨N, _, (((hr.set (i * 4) _).set (i * 4 + 1) _).set (i * 4 + 2) _).set (i * 4 + 3) _, hN, fun j hj s hs => ?_⟩
  show (if j * 4 + s = i * 4 + 3 then Value.string x.p else if j * 4 + s = i * 4 + 2 then Value.bool x.c else if j * 4 + s = i * 4 + 1 then Value.string x.v else if j * 4 + s = i * 4 then Value.string x.n else f (j * 4 + s)) = (if j = i then x else F j).cell s
  by_cases hji : j = i
  · subst hji
    rw [if_pos rfl]
    have : s = 0 ∨ s = 1 ∨ s = 2 ∨ s = 3 := by omega
    rcases this with rfl | rfl | rfl | rfl
    · rw [if_neg (by omega), if_neg (by omega), if_neg (by omega), if_pos (by omega)]; rfl
    · rw [if_neg (by omega), if_neg (by omega), if_pos (by omega)]; rfl
    · rw [if_neg (by omega), if_pos (by omega)]; rfl
    · rw [if_pos (by omega)]; rfl
  · rw [if_neg (by omega), if_neg (by omega), if_neg (by omega), if_neg (by omega), if_neg hji]; exact hf j hj s hs

def zero31 (n : Nat) : Obj := .cells (madeCells #[.string ⟨#[]⟩, .string ⟨#[]⟩, .bool false, .string ⟨#[]⟩] (n * 4)) 31

theorem make26 (n : Nat) (h : n ≤ 65536) (w : World) : (Instr.makeSlice 26 (.int .i64 (n : Int)) (.int .i64 (n : Int))).run Try.prog w = .ok (.slice (some ⟨w.heap.size, 0, none⟩) n n) (w.alloc (zero31 n)) := by
  obtain ⟨i, hi, hzz⟩ := Option.map_eq_some_iff.1 Try.info31
  simp only [Prod.mk.injEq] at hzz
  obtain ⟨hz, hs, hb⟩ := hzz
  have := run_make (P := Try.prog) w 26 31 i _ Try.underlying26 hi hz .i64 .i64 (n : Int) (n : Int) (by omega) (Int.le_refl _) (by rw [hb]; omega) (by omega)
  rw [hs] at this
  exact this

/-- The zero field. -/
def fz : Fld := ⟨⟨#[]⟩, ⟨#[]⟩, false, ⟨#[]⟩⟩

theorem own_zero (w : World) (n : Nat) : Own (w.alloc (zero31 n)) w.heap.size n (fun _ => fz) := by
  refine ⟨n * 4, fun j => fz.cell (j % 4), ⟨_, Deep.blk_alloc_new _ _, size_madeCells _ _, fun i hi => ?_⟩, Nat.le_refl _, fun i hi r hr => by show fz.cell ((i * 4 + r) % 4) = fz.cell r; rw [show (i * 4 + r) % 4 = r by omega]⟩
  have : i % 4 = 0 ∨ i % 4 = 1 ∨ i % 4 = 2 ∨ i % 4 = 3 := by omega
  rcases this with h | h | h | h <;> simp [madeCells, hi, h, Fld.cell, fz]

/-- A listing that came back. -/
def RetL (w : World) (n : Nat) (F : Nat → Fld) (e : Ending) (w' : World) : Prop :=
  Below w.heap.size w w' ∧ ((n = 0 ∧ e = .returned (.slice none 0 0)) ∨ ∃ g, e = .returned (.slice (some ⟨g, 0, none⟩) n n) ∧ w.heap.size ≤ g ∧ Own w' g n F)

set_option maxHeartbeats 400000 in
theorem toListing_any (ao : Option Addr) (n c : Nat) (F : Nat → Fld) (w : World) (hnn : n ≤ 65536) (h : FS w ao n F) :
    Calls Try.prog 7 #[.slice ao n c] w fun e w' => RetL w n F e w' := by
  have q22 : ∀ (w : World) (a : Option Addr) (n c n' c' : Nat), (binOp .eql 22 (.slice a n c) (.slice none n' c')).run Try.prog w = .ok (.bool a.isNone) w := fun w a n c n' c' => Lib.run_eql_slice_nil w 22 33 a n c n' c' Try.underlying22
  cases ao with
  | none =>
    have hn0 : n = 0 := by
      by_cases h0 : 0 < n
      · obtain ⟨b, off, e, _⟩ := h 0 h0
        cases e
      · omega
    subst hn0
    go_enter Try.func7, Try.ntmps7
    go_wp2
    go_ret
    exact ⟨Below.refl _ _, .inl ⟨rfl, rfl⟩⟩
  | some x =>
  have hmk := make26 n hnn
  go_enter Try.func7, Try.ntmps7
  go_wp2
  go_loopw [4] (fun i wr => ∃ k : Nat, k ≤ n ∧ i = .int .i64 k ∧ Hid (Below w.heap.size w wr) ∧ Hid (Own wr w.heap.size n (fun i => if i < k then F i else fz))) (fun i _ => n - (intOf i).toNat)
  case atStart => exact ⟨0, Nat.zero_le _, rfl, below_alloc _ _, own_congr (own_zero w n) (fun i _ => by rw [if_neg (by omega)])⟩
  case round =>
    obtain ⟨k, hk, rfl, hbel, hown⟩ := hrel
    by_cases hlt : k < n
    · obtain ⟨b, off, e, g0, g1, g2, g3⟩ := (h.below hbel.out).four k hlt
      simp only [Option.some.injEq] at e
      subst e
      obtain ⟨z0, y0⟩ := hown.out.place k hlt 0 (by omega)
      obtain ⟨z1, y1⟩ := hown.out.place k hlt 1 (by omega)
      obtain ⟨z2, y2⟩ := hown.out.place k hlt 2 (by omega)
      obtain ⟨z3, y3⟩ := hown.out.place k hlt 3 (by omega)
      rw [if_neg (Nat.lt_irrefl k)] at z0 z1 z2 z3
      simp only [Nat.add_zero] at z0 y0
      have hkn : (k : Int) < (n : Int) := by omega
      clear h
      obtain ⟨fk, HFK⟩ : ∃ fk, Hid (fk = F k) := ⟨_, rfl⟩
      rw [← HFK.out] at g0 g1 g2 g3
      go_wp2
      go_region
      go_wp2
      go_roundw
      case rel =>
        refine ⟨k + 1, by omega, by go_num, ?_, ?_⟩
        · exact ((((hbel.out.setCell (Nat.le_refl _) _).setCell (Nat.le_refl _) _).setCell (Nat.le_refl _) _).setCell (Nat.le_refl _) _).drew
        · refine own_congr (hown.out.set4 k fk) (fun i hi => ?_)
          by_cases hik : i = k
          · subst hik; rw [if_pos rfl, if_pos (by omega)]; exact HFK.out
          · rw [if_neg hik]
            by_cases hik2 : i < k
            · rw [if_pos hik2, if_pos (by omega)]
            · rw [if_neg hik2, if_neg (by omega)]
      case measure => simp [intOf]; omega
    · have HR := hown.out
      have HB := hbel.out
      go_wp2
      go_ret
      exact ⟨HB, .inr ⟨w.heap.size, rfl, Nat.le_refl _, own_congr HR (fun i hi => by rw [if_pos (by omega)])⟩⟩
end Go.Proofs.Qxb6617683a
