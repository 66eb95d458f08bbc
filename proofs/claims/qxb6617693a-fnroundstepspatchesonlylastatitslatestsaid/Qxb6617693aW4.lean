import Derived.Test.Qxb6617693aW3
import Derived.Deep.OwnRows
import Derived.BigRegion
namespace Go.Proofs.Qxb6617693a
open Go.RowKit

theorem Try.info37 : (Try.prog.info? 37).map (fun i => (i.zero, i.size, i.bytes)) = some (some (.agg #[.int .i64 0, .string ⟨#[]⟩, .slice none 0 0, .slice none 0 0, .slice none 0 0, .int .i64 0, .slice none 0 0, .slice none 0 0]), 8, 152) := by kernel_rfl

/-- A row of n steps (and more room behind them) that the call made. -/
def Own (w : World) (g n : Nat) (F : Nat → Stp) : Prop := ∃ N f, w.rowIs g 37 N f ∧ n * 8 ≤ N ∧ ∀ i, i < n → ∀ r, r < 8 → f (i * 8 + r) = (F i).cell r

theorem Own.ss {w : World} {g n : Nat} {F : Nat → Stp} (h : Own w g n F) : SS w (some ⟨g, 0, none⟩) n F := by
  obtain ⟨N, f, hr, hN, hf⟩ := h
  intro i hi
  refine ⟨g, 0, rfl, fun r h8 => ?_⟩
  rw [Nat.zero_add, ← hf i hi r h8]
  exact hr.cell (by omega)

theorem Own.lt {w : World} {g n : Nat} {F : Nat → Stp} (h : Own w g n F) : g < w.heap.size := by
  obtain ⟨N, f, hr, hN, hf⟩ := h
  exact hr.lt

theorem Own.below {w w' : World} {g n : Nat} {F : Nat → Stp} (h : Own w g n F) (hb : Below w.heap.size w w') : Own w' g n F := by
  obtain ⟨N, f, hr, hN, hf⟩ := h
  exact ⟨N, f, hr.of_block (hb.block g hr.lt), hN, hf⟩

/-- What a store into step i, place r wants. -/
theorem Own.place {w : World} {g n : Nat} {F : Nat → Stp} (h : Own w g n F) (i : Nat) (hi : i < n) (r : Nat) (hr8 : r < 8) : w.cell? ⟨g, i * 8 + r, none⟩ = some ((F i).cell r) ∧ w.frozen? ⟨g, i * 8 + r, none⟩ = false := by
  obtain ⟨N, f, hr, hN, hf⟩ := h
  exact ⟨by rw [← hf i hi r hr8]; exact hr.cell (by omega), hr.frozen _⟩

theorem own_congr {w : World} {g n : Nat} {F G : Nat → Stp} (h : Own w g n F) (e : ∀ i, i < n → F i = G i) : Own w g n G := by
  obtain ⟨N, f, hr, hN, hf⟩ := h
  exact ⟨N, f, hr, hN, fun i hi r hr' => by rw [← e i hi]; exact hf i hi r hr'⟩

/-- A whole step stored, place by place. -/
theorem Own.set8 {w : World} {g n : Nat} {F : Nat → Stp} (h : Own w g n F) (i : Nat) (x : Stp) :
    Own ((((((((w.setCell ⟨g, i * 8, none⟩ (.int .i64 x.no)).setCell ⟨g, i * 8 + 1, none⟩ (.string x.node)).setCell ⟨g, i * 8 + 2, none⟩ (.slice x.delta.a x.delta.n x.delta.c)).setCell ⟨g, i * 8 + 3, none⟩ (.slice x.state.a x.state.n x.state.c)).setCell ⟨g, i * 8 + 4, none⟩ (.slice x.patch.a x.patch.n x.patch.c)).setCell ⟨g, i * 8 + 5, none⟩ (.int .i64 x.base)).setCell ⟨g, i * 8 + 6, none⟩ (.slice x.pend.a x.pend.n x.pend.c)).setCell ⟨g, i * 8 + 7, none⟩ (.slice x.keys.a x.keys.n x.keys.c)) g n (fun j => if j = i then x else F j) := by
  obtain ⟨N, f, hr, hN, hf⟩ := h
  refine ⟨N, _, ((((((((hr.set (i * 8) _).set (i * 8 + 1) _).set (i * 8 + 2) _).set (i * 8 + 3) _).set (i * 8 + 4) _).set (i * 8 + 5) _).set (i * 8 + 6) _).set (i * 8 + 7) _), hN, fun j hj s hs => ?_⟩
  show (if j * 8 + s = i * 8 + 7 then Value.slice x.keys.a x.keys.n x.keys.c else if j * 8 + s = i * 8 + 6 then Value.slice x.pend.a x.pend.n x.pend.c else if j * 8 + s = i * 8 + 5 then Value.int .i64 x.base else if j * 8 + s = i * 8 + 4 then Value.slice x.patch.a x.patch.n x.patch.c else if j * 8 + s = i * 8 + 3 then Value.slice x.state.a x.state.n x.state.c else if j * 8 + s = i * 8 + 2 then Value.slice x.delta.a x.delta.n x.delta.c else if j * 8 + s = i * 8 + 1 then Value.string x.node else if j * 8 + s = i * 8 then Value.int .i64 x.no else f (j * 8 + s)) = (if j = i then x else F j).cell s
  by_cases hji : j = i
  · subst hji
    rw [if_pos rfl]
    have : s = 0 ∨ s = 1 ∨ s = 2 ∨ s = 3 ∨ s = 4 ∨ s = 5 ∨ s = 6 ∨ s = 7 := by omega
    rcases this with rfl | rfl | rfl | rfl | rfl | rfl | rfl | rfl
    · rw [if_neg (by omega), if_neg (by omega), if_neg (by omega), if_neg (by omega), if_neg (by omega), if_neg (by omega), if_neg (by omega), if_pos (by omega)]; rfl
    · rw [if_neg (by omega), if_neg (by omega), if_neg (by omega), if_neg (by omega), if_neg (by omega), if_neg (by omega), if_pos (by omega)]; rfl
    · rw [if_neg (by omega), if_neg (by omega), if_neg (by omega), if_neg (by omega), if_neg (by omega), if_pos (by omega)]; rfl
    · rw [if_neg (by omega), if_neg (by omega), if_neg (by omega), if_neg (by omega), if_pos (by omega)]; rfl
    · rw [if_neg (by omega), if_neg (by omega), if_neg (by omega), if_pos (by omega)]; rfl
    · rw [if_neg (by omega), if_neg (by omega), if_pos (by omega)]; rfl
    · rw [if_neg (by omega), if_pos (by omega)]; rfl
    · rw [if_pos (by omega)]; rfl
  · rw [if_neg (by omega), if_neg (by omega), if_neg (by omega), if_neg (by omega), if_neg (by omega), if_neg (by omega), if_neg (by omega), if_neg (by omega), if_neg hji]; exact hf j hj s hs

/-- Three places of one step stored: its state, its patch, its base. -/
theorem Own.set3 {w : World} {g n : Nat} {F : Nat → Stp} (h : Own w g n F) (i : Nat) (p : Sl) (b : Int) :
    Own (((w.setCell ⟨g, i * 8 + 3, none⟩ (.slice none 0 0)).setCell ⟨g, i * 8 + 4, none⟩ (.slice p.a p.n p.c)).setCell ⟨g, i * 8 + 5, none⟩ (.int .i64 b)) g n (fun j => if j = i then { F i with state := ⟨none, 0, 0⟩, patch := p, base := b } else F j) := by
  obtain ⟨N, f, hr, hN, hf⟩ := h
  refine ⟨N, _, ((hr.set (i * 8 + 3) _).set (i * 8 + 4) _).set (i * 8 + 5) _, hN, fun j hj s hs => ?_⟩
  show (if j * 8 + s = i * 8 + 5 then Value.int .i64 b else if j * 8 + s = i * 8 + 4 then Value.slice p.a p.n p.c else if j * 8 + s = i * 8 + 3 then Value.slice none 0 0 else f (j * 8 + s)) = (if j = i then ({ F i with state := ⟨none, 0, 0⟩, patch := p, base := b } : Stp) else F j).cell s
  by_cases hji : j = i
  · subst hji
    rw [if_pos rfl]
    have : s = 3 ∨ s = 4 ∨ s = 5 ∨ s = 0 ∨ s = 1 ∨ s = 2 ∨ s = 6 ∨ s = 7 := by omega
    rcases this with rfl | rfl | rfl | rfl | rfl | rfl | rfl | rfl
    · rw [if_neg (by omega), if_neg (by omega), if_pos (by omega)]; rfl
    · rw [if_neg (by omega), if_pos (by omega)]; rfl
    · rw [if_pos (by omega)]; rfl
    · rw [if_neg (by omega), if_neg (by omega), if_neg (by omega), hf j hj 0 (by omega)]; rfl
    · rw [if_neg (by omega), if_neg (by omega), if_neg (by omega), hf j hj 1 (by omega)]; rfl
    · rw [if_neg (by omega), if_neg (by omega), if_neg (by omega), hf j hj 2 (by omega)]; rfl
    · rw [if_neg (by omega), if_neg (by omega), if_neg (by omega), hf j hj 6 (by omega)]; rfl
    · rw [if_neg (by omega), if_neg (by omega), if_neg (by omega), hf j hj 7 (by omega)]; rfl
  · rw [if_neg (by omega), if_neg (by omega), if_neg (by omega), if_neg hji]; exact hf j hj s hs

def zero37 (n : Nat) : Obj := .cells (madeCells #[.int .i64 0, .string ⟨#[]⟩, .slice none 0 0, .slice none 0 0, .slice none 0 0, .int .i64 0, .slice none 0 0, .slice none 0 0] (n * 8)) 37

theorem make26 (n : Nat) (h : n ≤ 65536) (w : World) : (Instr.makeSlice 26 (.int .i64 (n : Int)) (.int .i64 (n : Int))).run Try.prog w = .ok (.slice (some ⟨w.heap.size, 0, none⟩) n n) (w.alloc (zero37 n)) := by
  obtain ⟨i, hi, hzz⟩ := Option.map_eq_some_iff.1 Try.info37
  simp only [Prod.mk.injEq] at hzz
  obtain ⟨hz, hs, hb⟩ := hzz
  have := run_make (P := Try.prog) w 26 37 i _ Try.underlying26 hi hz .i64 .i64 (n : Int) (n : Int) (by omega) (Int.le_refl _) (by rw [hb]; omega) (by omega)
  rw [hs] at this
  exact this

/-- The zero step. -/
def fz : Stp := ⟨0, ⟨#[]⟩, ⟨none, 0, 0⟩, ⟨none, 0, 0⟩, ⟨none, 0, 0⟩, 0, ⟨none, 0, 0⟩, ⟨none, 0, 0⟩⟩

theorem own_zero (w : World) (n : Nat) : Own (w.alloc (zero37 n)) w.heap.size n (fun _ => fz) := by
  refine ⟨n * 8, fun j => fz.cell (j % 8), ⟨_, Deep.blk_alloc_new _ _, size_madeCells _ _, fun i hi => ?_⟩, Nat.le_refl _, fun i hi r hr => by show fz.cell ((i * 8 + r) % 8) = fz.cell r; rw [show (i * 8 + r) % 8 = r by omega]⟩
  have : i % 8 = 0 ∨ i % 8 = 1 ∨ i % 8 = 2 ∨ i % 8 = 3 ∨ i % 8 = 4 ∨ i % 8 = 5 ∨ i % 8 = 6 ∨ i % 8 = 7 := by omega
  rcases this with h | h | h | h | h | h | h | h <;> simp [madeCells, hi, h, Stp.cell, fz]

/-- Steps that came back: nil of nil, else a row of its own. -/
def RetL (w : World) (ao : Option Addr) (n : Nat) (F : Nat → Stp) (e : Ending) (w' : World) : Prop :=
  Below w.heap.size w w' ∧ ((ao = none ∧ n = 0 ∧ e = .returned (.slice none 0 0)) ∨ ∃ g cap, ao.isSome = true ∧ e = .returned (.slice (some ⟨g, 0, none⟩) n cap) ∧ w.heap.size ≤ g ∧ Own w' g n F)

set_option maxRecDepth 100000 in
set_option maxHeartbeats 1000000 in
theorem toStored_any (ao : Option Addr) (n c : Nat) (F : Nat → Stp) (w : World) (hnn : n ≤ 65536) (h : SS w ao n F) :
    Calls Try.prog 6 #[.slice ao n c] w fun e w' => RetL w ao n F e w' := by
  have q22 : ∀ (w : World) (a : Option Addr) (n c n' c' : Nat), (binOp .eql 22 (.slice a n c) (.slice none n' c')).run Try.prog w = .ok (.bool a.isNone) w := fun w a n c n' c' => Lib.run_eql_slice_nil w 22 38 a n c n' c' Try.underlying22
  cases ao with
  | none =>
    obtain rfl := h.nil rfl
    go_enter Try.func6, Try.ntmps6
    go_wp2
    go_ret
    exact ⟨Below.refl _ _, .inl ⟨rfl, rfl, rfl⟩⟩
  | some x =>
  have hmk := make26 n hnn
  go_enter Try.func6, Try.ntmps6
  go_wp2
  go_loopw [4] (fun i wr => ∃ k : Nat, k ≤ n ∧ i = .int .i64 k ∧ Hid (Below w.heap.size w wr) ∧ Hid (Own wr w.heap.size n (fun i => if i < k then F i else fz))) (fun i _ => n - (intOf i).toNat)
  case atStart => exact ⟨0, Nat.zero_le _, rfl, below_alloc _ _, own_congr (own_zero w n) (fun i _ => by rw [if_neg (by omega)])⟩
  case round =>
    obtain ⟨k, hk, rfl, hbel, hown⟩ := hrel
    by_cases hlt : k < n
    · obtain ⟨b, off, e, g0, g1, g2, g3, g4, g5, g6, g7⟩ := (h.below hbel.out).eight k hlt
      simp only [Option.some.injEq] at e
      subst e
      obtain ⟨z0, y0⟩ := hown.out.place k hlt 0 (by omega)
      obtain ⟨z1, y1⟩ := hown.out.place k hlt 1 (by omega)
      obtain ⟨z2, y2⟩ := hown.out.place k hlt 2 (by omega)
      obtain ⟨z3, y3⟩ := hown.out.place k hlt 3 (by omega)
      obtain ⟨z4, y4⟩ := hown.out.place k hlt 4 (by omega)
      obtain ⟨z5, y5⟩ := hown.out.place k hlt 5 (by omega)
      obtain ⟨z6, y6⟩ := hown.out.place k hlt 6 (by omega)
      obtain ⟨z7, y7⟩ := hown.out.place k hlt 7 (by omega)
      rw [if_neg (Nat.lt_irrefl k)] at z0 z1 z2 z3 z4 z5 z6 z7
      simp only [Nat.add_zero, Stp.cell, fz] at z0 z1 z2 z3 z4 z5 z6 z7 y0
      have hkn : (k : Int) < (n : Int) := by omega
      have hbs : b < wr.heap.size := World.block_lt_of_cell? _ _ g0
      have hws : w.heap.size < wr.heap.size := World.block_lt_of_cell? _ _ z0
      clear h
      obtain ⟨fk, HFK⟩ : ∃ fk, Hid (fk = F k) := ⟨_, rfl⟩
      rw [← HFK.out] at g0 g1 g2 g3 g4 g5 g6 g7
      have HO : Hid (Own ((((((((wr.setCell ⟨w.heap.size, k * 8, none⟩ (.int .i64 fk.no)).setCell ⟨w.heap.size, k * 8 + 1, none⟩ (.string fk.node)).setCell ⟨w.heap.size, k * 8 + 2, none⟩ (.slice fk.delta.a fk.delta.n fk.delta.c)).setCell ⟨w.heap.size, k * 8 + 3, none⟩ (.slice fk.state.a fk.state.n fk.state.c)).setCell ⟨w.heap.size, k * 8 + 4, none⟩ (.slice fk.patch.a fk.patch.n fk.patch.c)).setCell ⟨w.heap.size, k * 8 + 5, none⟩ (.int .i64 fk.base)).setCell ⟨w.heap.size, k * 8 + 6, none⟩ (.slice fk.pend.a fk.pend.n fk.pend.c)).setCell ⟨w.heap.size, k * 8 + 7, none⟩ (.slice fk.keys.a fk.keys.n fk.keys.c)) w.heap.size n (fun i => if i < k + 1 then F i else fz)) := own_congr (hown.out.set8 k fk) (fun i hi => by
        by_cases hik : i = k
        · subst hik; rw [if_pos rfl, if_pos (by omega)]; exact HFK.out
        · rw [if_neg hik]
          by_cases hik2 : i < k
          · rw [if_pos hik2, if_pos (by omega)]
          · rw [if_neg hik2, if_neg (by omega)])
      have HB : Hid (Below w.heap.size w ((((((((wr.setCell ⟨w.heap.size, k * 8, none⟩ (.int .i64 fk.no)).setCell ⟨w.heap.size, k * 8 + 1, none⟩ (.string fk.node)).setCell ⟨w.heap.size, k * 8 + 2, none⟩ (.slice fk.delta.a fk.delta.n fk.delta.c)).setCell ⟨w.heap.size, k * 8 + 3, none⟩ (.slice fk.state.a fk.state.n fk.state.c)).setCell ⟨w.heap.size, k * 8 + 4, none⟩ (.slice fk.patch.a fk.patch.n fk.patch.c)).setCell ⟨w.heap.size, k * 8 + 5, none⟩ (.int .i64 fk.base)).setCell ⟨w.heap.size, k * 8 + 6, none⟩ (.slice fk.pend.a fk.pend.n fk.pend.c)).setCell ⟨w.heap.size, k * 8 + 7, none⟩ (.slice fk.keys.a fk.keys.n fk.keys.c))) := ((((((((hbel.out.setCell (Nat.le_refl _) _).setCell (Nat.le_refl _) _).setCell (Nat.le_refl _) _).setCell (Nat.le_refl _) _).setCell (Nat.le_refl _) _).setCell (Nat.le_refl _) _).setCell (Nat.le_refl _) _).setCell (Nat.le_refl _) _)
      clear hown HFK hmk
      go_wp2
      go_roundw
      case rel => exact ⟨k + 1, by omega, by go_num, HB.out.alloc HB.out.size _, HO.out.below (below_alloc _ _)⟩
      case measure => simp [intOf]; omega
    · have HR := hown.out
      have HB := hbel.out
      go_wp2
      go_ret
      exact ⟨HB, .inr ⟨w.heap.size, n, rfl, rfl, Nat.le_refl _, own_congr HR (fun i hi => by rw [if_pos (by omega)])⟩⟩
end Go.Proofs.Qxb6617693a
