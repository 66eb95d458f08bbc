import Derived.Test.Qxb6617693aW8
import Derived.ProofKit
import Derived.ChangeOld
import Derived.ChangeSlices
import Derived.Deep.Slices
namespace Go.Proofs.Qxb6617693a
open Go.ChangeShapes Go.WideShapes Go.ChangeAt Go.RowKit

theorem own : ownKnob Try.prog.godebug = none := by kernel_rfl
theorem laidOut : laidOutB Try.prog = true := by kernel_rfl
theorem Try.cells3 : Try.prog.cellsOf 3 = 1 := by kernel_rfl
theorem Try.cells5 : Try.prog.cellsOf 5 = 1 := by kernel_rfl
theorem Try.cells9 : Try.prog.cellsOf 9 = 1 := by kernel_rfl
theorem Try.cells23 : Try.prog.cellsOf 23 = 1 := by kernel_rfl
theorem Try.cells38 : Try.prog.cellsOf 38 = 8 := by kernel_rfl

theorem eightOf {α : Type} {l : List α} (h : l.length = 8) : ∃ a b c d e f g k, l = [a, b, c, d, e, f, g, k] := by
  match l, h with
  | [a, b, c, d, e, f, g, k], _ => exact ⟨a, b, c, d, e, f, g, k, rfl⟩

/-- The bytes behind an address, its spot met. -/
theorem bytes_at {W : World} {a : Addr} {len : Nat} {zs : List Int} (hc : ∀ i, i < len → W.cell? (a.add i) = some (.int .u8 (zs.getD i 0))) (i : Nat) (hi : i < len) :
    ∃ b off, a = ⟨b, off, none⟩ ∧ W.cell? ⟨b, off + i, none⟩ = some (.int .u8 (zs.getD i 0)) := by
  obtain ⟨b, off, spot⟩ := a
  have h := hc i hi
  have hspot : spot = none := by simpa [Addr.add] using World.cell?_spot (hc 0 (by omega))
  subst hspot
  rw [Addr.add_lit] at h
  exact ⟨b, off, rfl, h⟩

/-- A byte slice's cell as it was trodden. -/
theorem sl_of {H : Type} {enc : TypeId × Value → H} {W : World} {fuel : Nat} {cs : List Value} {x : DataW H × List MemPlace} (h : DataW.trod enc Try.prog W 0 (fun _ => true) true fuel 23 cs = some x) :
    ∃ s : Sl, cs = [.slice s.a s.n s.c] ∧ RD W s := by
  rcases open_ints Try.underlying23 Try.underlying5 Try.cells5 h with ⟨rfl, _⟩ | ⟨a, len, cap, zs, rfl, _, hl, hm, hz, _, hc, _⟩
  · exact ⟨⟨none, 0, 0⟩, rfl, Nat.zero_le _, fun i hi => absurd hi (Nat.not_lt_zero i)⟩
  · refine ⟨⟨some a, len, cap⟩, rfl, Nat.le_trans hl hm, fun i hi => ?_⟩
    simp only [if_true] at hz
    have hi' : i < len := hi
    obtain ⟨b, off, e, h1⟩ := bytes_at (zs := zs) (fun j hj => hc j (by omega)) i hi'
    exact ⟨b, off, _, by rw [e], h1⟩

/-- The patch as it was handed in. -/
theorem patch_of {H : Type} {enc : TypeId × Value → H} {W : World} {a0 : Option Addr} {len cap : Nat} {d : DataW H} {p : List MemPlace} (h : DataW.Trod enc Try.prog W 0 (fun _ => true) true 23 (.slice a0 len cap) d p) :
    (a0 = none ∧ len = 0 ∧ cap = 0) ∨ ∃ px zs, a0 = some px ∧ PB W px len zs := by
  obtain ⟨fuel, hf⟩ := h
  rcases open_ints Try.underlying23 Try.underlying5 Try.cells5 hf with ⟨hcs, _⟩ | ⟨a, len', cap', zs, hcs, _, hl, hm, hz, _, hc, _⟩
  · simp [Value.cells] at hcs
    exact Or.inl hcs
  · simp [Value.cells] at hcs
    obtain ⟨rfl, rfl, rfl⟩ := hcs
    simp only [if_true] at hz
    refine Or.inr ⟨a, zs.take len, rfl, by rw [List.length_take]; omega, fun i hi => ?_⟩
    obtain ⟨b, off, e, h1⟩ := bytes_at (zs := zs) (fun j hj => hc j (by omega)) i hi
    refine ⟨b, off, e, ?_⟩
    rw [h1]
    simp [List.getD, hi]

/-- A struct of eight fields, opened. -/
theorem struct8 {H : Type} {enc : TypeId × Value → H} {P : Program} {w : World} {base : Nat} {spare : Nat → Bool} {held : Bool} {t : TypeId} {f0 f1 f2 f3 f4 f5 f6 f7 : Field} {fuel : Nat} {cs : List Value} {x : DataW H × List MemPlace} (ht : P.underlying t = some (.struct #[f0, f1, f2, f3, f4, f5, f6, f7])) (h : DataW.trod enc P w base spare held fuel t cs = some x) :
    ∃ y0 y1 y2 y3 y4 y5 y6 y7 n, cs.length = P.cellsOf t ∧ DataW.trod enc P w base spare held n f0.type ((cs.drop f0.offset).take (P.cellsOf f0.type)) = some y0 ∧
      DataW.trod enc P w base spare held n f1.type ((cs.drop f1.offset).take (P.cellsOf f1.type)) = some y1 ∧
      DataW.trod enc P w base spare held n f2.type ((cs.drop f2.offset).take (P.cellsOf f2.type)) = some y2 ∧
      DataW.trod enc P w base spare held n f3.type ((cs.drop f3.offset).take (P.cellsOf f3.type)) = some y3 ∧
      DataW.trod enc P w base spare held n f4.type ((cs.drop f4.offset).take (P.cellsOf f4.type)) = some y4 ∧
      DataW.trod enc P w base spare held n f5.type ((cs.drop f5.offset).take (P.cellsOf f5.type)) = some y5 ∧
      DataW.trod enc P w base spare held n f6.type ((cs.drop f6.offset).take (P.cellsOf f6.type)) = some y6 ∧
      DataW.trod enc P w base spare held n f7.type ((cs.drop f7.offset).take (P.cellsOf f7.type)) = some y7 := by
  obtain ⟨xs, n, _, rfl, hl, hlen, hf⟩ := DataW.trod_struct ht h
  obtain ⟨y0, y1, y2, y3, y4, y5, y6, y7, rfl⟩ := eightOf hlen
  exact ⟨y0, y1, y2, y3, y4, y5, y6, y7, n, hl, hf 0 f0 rfl, hf 1 f1 rfl, hf 2 f2 rfl, hf 3 f3 rfl, hf 4 f4 rfl, hf 5 f5 rfl, hf 6 f6 rfl, hf 7 f7 rfl⟩

/-- What the cells of one step hold. -/
theorem stp_of {H : Type} {enc : TypeId × Value → H} {W : World} {fuel : Nat} {cs : List Value} {x : DataW H × List MemPlace} (h : DataW.trod enc Try.prog W 0 (fun _ => true) true fuel 38 cs = some x) :
    ∃ f : Stp, cs = [f.cell 0, f.cell 1, f.cell 2, f.cell 3, f.cell 4, f.cell 5, f.cell 6, f.cell 7] ∧ RT W f := by
  obtain ⟨y0, y1, y2, y3, y4, y5, y6, y7, n, hl, h0, h1, h2, h3, h4, h5, h6, h7⟩ := struct8 Try.underlying38 h
  rw [Try.cells38] at hl
  obtain ⟨c0, c1, c2, c3, c4, c5, c6, c7, rfl⟩ := eightOf hl
  simp only [Try.cells3, Try.cells9, Try.cells23, List.drop_zero, List.drop_succ_cons, List.take_succ_cons, List.take_zero] at h0 h1 h2 h3 h4 h5 h6 h7
  obtain ⟨z0, e0, _, _⟩ := DataW.trod_int Try.underlying3 h0
  obtain ⟨s1, e1, _, _⟩ := DataW.trod_string Try.underlying9 h1
  obtain ⟨s2, e2, r2⟩ := sl_of h2
  obtain ⟨s3, e3, r3⟩ := sl_of h3
  obtain ⟨s4, e4, r4⟩ := sl_of h4
  obtain ⟨z5, e5, _, _⟩ := DataW.trod_int Try.underlying3 h5
  obtain ⟨s6, e6, r6⟩ := sl_of h6
  obtain ⟨s7, e7, r7⟩ := sl_of h7
  simp only [List.cons.injEq, and_true] at e0 e1 e2 e3 e4 e5 e6 e7
  subst e0 e1 e2 e3 e4 e5 e6 e7
  exact ⟨⟨z0, s1, s2, s3, s4, z5, s6, s7⟩, rfl, r2, r3, r4, r6, r7⟩

def Stp.none : Stp := ⟨0, ⟨#[]⟩, ⟨.none, 0, 0⟩, ⟨.none, 0, 0⟩, ⟨.none, 0, 0⟩, 0, ⟨.none, 0, 0⟩, ⟨.none, 0, 0⟩⟩

/-- What the walk is told of the slice of steps. -/
theorem steps_of {H : Type} {enc : TypeId × Value → H} {W : World} {a0 : Option Addr} {len cap : Nat} {d : DataW H} {p : List MemPlace} (h : DataW.Trod enc Try.prog W 0 (fun _ => true) true 22 (.slice a0 len cap) d p) :
    ∃ F : Nat → Stp, len ≤ maxLen ∧ SS W a0 len F ∧ ∀ i, i < len → RT W (F i) := by
  obtain ⟨fuel, hf⟩ := h
  rcases Deep.open_slice Try.underlying22 hf with ⟨hcs, _⟩ | ⟨a, len', cap', m, n, D, Pl, hcs, _, hl, hm, hmm, _, hx⟩
  · simp [Value.cells] at hcs
    obtain ⟨rfl, rfl, rfl⟩ := hcs
    exact ⟨fun _ => Stp.none, Nat.zero_le _, fun i hi => absurd hi (by omega), fun i hi => absurd hi (by omega)⟩
  · simp [Value.cells] at hcs
    obtain ⟨rfl, rfl, rfl⟩ := hcs
    simp at hmm
    subst hmm
    have each : ∀ i, i < len → ∃ f : Stp, (∀ r, r < 8 → W.cell? (a.add (i * 8 + r)) = some (f.cell r)) ∧ RT W f := fun i hi => by
      obtain ⟨cs', h1, h2⟩ := hx i (by omega)
      rw [Try.cells38] at h1
      obtain ⟨f, rfl, hrt⟩ := stp_of h2
      obtain ⟨_, _, hc⟩ := World.cells?_some h1
      refine ⟨f, fun r hr => ?_, hrt⟩
      have := hc r hr
      rw [Deep.add_add] at this
      rw [this]
      have : r = 0 ∨ r = 1 ∨ r = 2 ∨ r = 3 ∨ r = 4 ∨ r = 5 ∨ r = 6 ∨ r = 7 := by omega
      rcases this with rfl | rfl | rfl | rfl | rfl | rfl | rfl | rfl <;> rfl
    have hch : ∃ F : Nat → Stp, ∀ i, i < len → (∀ r, r < 8 → W.cell? (a.add (i * 8 + r)) = some ((F i).cell r)) ∧ RT W (F i) := by
      classical
      refine ⟨fun i => if hi : i < len then Classical.choose (each i hi) else Stp.none, fun i hi => ?_⟩
      simp only [dif_pos hi]
      exact Classical.choose_spec (each i hi)
    obtain ⟨F, hF⟩ := hch
    refine ⟨F, by omega, fun i hi => ?_, fun i hi => (hF i hi).2⟩
    obtain ⟨b, off, spot⟩ := a
    have hspot : spot = none := by simpa [Addr.add] using World.cell?_spot ((hF 0 (by omega)).1 0 (by omega))
    subst hspot
    refine ⟨b, off, rfl, fun r hr => ?_⟩
    have := (hF i hi).1 r hr
    rw [Addr.add_lit] at this
    rw [Nat.add_assoc]
    exact this

/-- The law, whatever the patch and the number asked at. -/
theorem law_any (ao : Option Addr) (n c : Nat) (po : Option Addr) (pn pc : Nat) (after bs bz pt latest : Int) (F : Nat → Stp) (w : World) (hnn : n ≤ maxLen) (h : SS w ao n F) (hr : ∀ i, i < n → RT w (F i))
    (hp : (po = none ∧ pn = 0 ∧ pc = 0) ∨ ∃ px zs, po = some px ∧ PB w px pn zs) :
    Calls Try.prog 3 #[.slice ao n c, .slice po pn pc, .int .i64 after, .int .i64 bs, .int .i64 bz, .int .i64 pt, .int .i64 latest] w fun e w' => e = .returned (.bool true) ∧ Below w.heap.size w w' := by
  rcases hp with ⟨rfl, rfl, rfl⟩ | ⟨px, zs, rfl, hp⟩
  · exact lawA ao n c after bs bz pt latest F w hnn h hr
  · by_cases hl : after = latest
    · subst hl
      exact lawB ao n c px pn pc zs after bs bz pt F w hnn h hr hp
    · exact lawC ao n c px pn pc zs after bs bz pt latest F w hnn h hr hp (by simpa using hl)
end Go.Proofs.Qxb6617693a
