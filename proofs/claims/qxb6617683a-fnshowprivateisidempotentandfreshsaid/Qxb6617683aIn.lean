import Derived.Test.Qxb6617683aW1
import Derived.ProofKit
import Derived.ChangeOld
import Derived.Deep.Slices
import Derived.Lib.SmallJoins
namespace Go.Proofs.Qxb6617683a
open Go.ChangeShapes Go.WideShapes Go.ChangeAt Go.RowKit

theorem own : ownKnob Try.prog.godebug = none := by kernel_rfl
theorem laidOut : laidOutB Try.prog = true := by kernel_rfl
theorem Try.cells9 : Try.prog.cellsOf 9 = 1 := by kernel_rfl
theorem Try.cells4 : Try.prog.cellsOf 4 = 1 := by kernel_rfl
theorem Try.cells33 : Try.prog.cellsOf 33 = 4 := by kernel_rfl

theorem four {α : Type} {l : List α} (h : l.length = 4) : ∃ a b c d, l = [a, b, c, d] := by
  match l, h with
  | [a, b, c, d], _ => exact ⟨a, b, c, d, rfl⟩

/-- What the cells of one element hold. -/
theorem fld_of {H : Type} {enc : TypeId × Value → H} {W : World} {fuel : Nat} {cs : List Value} {x : DataW H × List MemPlace} (h : DataW.trod enc Try.prog W 0 (fun _ => true) true fuel 33 cs = some x) :
    ∃ f : Fld, cs = [f.cell 0, f.cell 1, f.cell 2, f.cell 3] := by
  obtain ⟨y0, y1, y2, y3, n, _, hl, h0, h1, h2, h3⟩ := Joins.trod_struct4 Try.underlying33 h
  rw [Try.cells33] at hl
  obtain ⟨c0, c1, c2, c3, rfl⟩ := four hl
  simp only [Try.cells9, Try.cells4, List.drop_zero, List.drop_succ_cons, List.take_succ_cons, List.take_zero] at h0 h1 h2 h3
  obtain ⟨s0, e0, _, _⟩ := DataW.trod_string Try.underlying9 h0
  obtain ⟨s1, e1, _, _⟩ := DataW.trod_string Try.underlying9 h1
  obtain ⟨b2, e2, _⟩ := DataW.trod_bool Try.underlying4 h2
  obtain ⟨s3, e3, _, _⟩ := DataW.trod_string Try.underlying9 h3
  simp only [List.cons.injEq, and_true] at e0 e1 e2 e3
  subst e0 e1 e2 e3
  exact ⟨⟨s0, s1, b2, s3⟩, rfl⟩

/-- What the walk is told of the slice of fields. -/
theorem fields_of {H : Type} {enc : TypeId × Value → H} {W : World} {a0 : Option Addr} {len cap : Nat} {d : DataW H} {p : List MemPlace} (h : DataW.Trod enc Try.prog W 0 (fun _ => true) true 22 (.slice a0 len cap) d p) :
    ∃ F : Nat → Fld, len ≤ maxLen ∧ FS W a0 len F := by
  obtain ⟨fuel, hf⟩ := h
  rcases Deep.open_slice Try.underlying22 hf with ⟨hcs, _⟩ | ⟨a, len', cap', m, n, D, Pl, hcs, _, hl, hm, hmm, _, hx⟩
  · simp [Value.cells] at hcs
    obtain ⟨rfl, rfl, rfl⟩ := hcs
    exact ⟨fun _ => ⟨⟨#[]⟩, ⟨#[]⟩, false, ⟨#[]⟩⟩, Nat.zero_le _, fun i hi => absurd hi (by omega)⟩
  · simp [Value.cells] at hcs
    obtain ⟨rfl, rfl, rfl⟩ := hcs
    simp at hmm
    subst hmm
    have each : ∀ i, i < len → ∃ f : Fld, ∀ r, r < 4 → W.cell? (a.add (i * 4 + r)) = some (f.cell r) := fun i hi => by
      obtain ⟨cs', h1, h2⟩ := hx i (by omega)
      rw [Try.cells33] at h1
      obtain ⟨f, rfl⟩ := fld_of h2
      obtain ⟨_, _, hc⟩ := World.cells?_some h1
      refine ⟨f, fun r hr => ?_⟩
      have := hc r hr
      rw [Deep.add_add] at this
      rw [this]
      have : r = 0 ∨ r = 1 ∨ r = 2 ∨ r = 3 := by omega
      rcases this with rfl | rfl | rfl | rfl <;> rfl
    have hch : ∃ F : Nat → Fld, ∀ i, i < len → ∀ r, r < 4 → W.cell? (a.add (i * 4 + r)) = some ((F i).cell r) := by
      classical
      refine ⟨fun i => if hi : i < len then Classical.choose (each i hi) else ⟨⟨#[]⟩, ⟨#[]⟩, false, ⟨#[]⟩⟩, fun i hi => ?_⟩
      simp only [dif_pos hi]
      exact Classical.choose_spec (each i hi)
    obtain ⟨F, hF⟩ := hch
    refine ⟨F, by omega, fun i hi => ?_⟩
    obtain ⟨b, off, spot⟩ := a
    have hspot : spot = none := by simpa [Addr.add] using World.cell?_spot (hF 0 (by omega) 0 (by omega))
    subst hspot
    refine ⟨b, off, rfl, fun r hr => ?_⟩
    have := hF i hi r hr
    rw [Addr.add_lit] at this
    rw [Nat.add_assoc]
    exact this
end Go.Proofs.Qxb6617683a
