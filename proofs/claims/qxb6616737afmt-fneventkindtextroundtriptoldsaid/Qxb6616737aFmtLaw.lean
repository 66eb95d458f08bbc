import Derived.Test.Qxb6616737aFmtW1
import Derived.Test.Qxb6616737aFmtTie
import Derived.Test.Qxb6616737aFmtCards
import Derived.ProofKit
import Derived.LaidMore
import Derived.Stop.Joined
import Derived.Stop.JoinedTold
import Derived.SevenTiedAt
import Derived.Deep.DeepWitnessRef
import Derived.Deep.Strs
namespace Go.Proofs.Qxb6616737aFmt
open Go.ChangeShapes Go.WideShapes Go.ChangeAt Go.RowKit

theorem own : ownKnob Tryf.prog.godebug = none := by kernel_rfl
theorem laidOut : laidOutB Tryf.prog = true := by kernel_rfl
/-- The variable's name. -/
def vName : String := Rows.fnEventKindTextRoundTripSpec.vars.headD ""
theorem gNames : Tryf.prog.globalNamed vName = some 0 := by kernel_rfl
theorem tNames : (Tryf.prog.globals[0]?).map (·.type) = some 31 := by kernel_rfl
theorem Tryf.cells9 : Tryf.prog.cellsOf 9 = 1 := by kernel_rfl
theorem Tryf.cells29 : Tryf.prog.cellsOf 29 = 1 := by kernel_rfl
theorem Tryf.cells31 : Tryf.prog.cellsOf 31 = 3 := by kernel_rfl

theorem three {α : Type} {l : List α} (h : l.length = 3) : ∃ a b c, l = [a, b, c] := by
  match l, h with
  | [a, b, c], _ => exact ⟨a, b, c, rfl⟩

theorem text_of {i : Nat} {s : ByteArray} (h : s.data.toList = (txt i).data.toList) : s = txt i := by
  have : s.data = (txt i).data := Array.toList_inj.1 h
  cases s; cases e : txt i
  rw [e] at this
  simp at this
  rw [this]

/-- WHAT THE CONDITION GIVES THE WALKS: the variable's three cells and its four texts. -/
theorem of_laid {W : World} (h : laidMetH Tryf.prog Rows.fnEventKindTextRoundTripRow.laid W) : ∃ b off cap T M, Names W b off cap T M := by
  have h' : laidMet Tryf.prog Rows.fnEventKindTextRoundTripRow.laid W := h
  obtain ⟨ps, ⟨g, t, cs, fuel, p, q, hg, ht, hv, hd, _, _⟩, _, _⟩ := h'
  obtain rfl := Option.some.inj (gNames.symm.trans hg)
  obtain rfl := Option.some.inj (tNames.symm.trans ht)
  obtain ⟨y0, y1, y2, n, hx, hl, h0, h1, h2⟩ := Deep.trod_struct3 Tryf.underlying31 hd
  rw [Tryf.cells31] at hl
  obtain ⟨c0, c1, c2, hcs⟩ := three hl
  rw [hcs] at h0 h1 h2
  simp only [Tryf.cells9, Tryf.cells29, List.drop_zero, List.drop_succ_cons, List.take_succ_cons, List.take_zero] at h0 h1 h2
  obtain ⟨T, e0, _, _⟩ := DataW.trod_string Tryf.underlying9 h0
  obtain ⟨M, e1, _, _⟩ := DataW.trod_string Tryf.underlying9 h1
  have hy : y2.1 = .slice [.lit (.string (txt 0).data.toList), .lit (.string (txt 1).data.toList), .lit (.string (txt 2).data.toList), .lit (.string (txt 3).data.toList)] [] := by
    have hxx := congrArg Prod.fst hx
    simp only [Rows.laid_example_com_tideline_tideline_history_eventNames, DataW.agg.injEq, List.cons.injEq, and_true] at hxx
    rw [← hxx.2.2]
    rfl
  obtain ⟨d2, p2⟩ := y2
  simp only at hy
  subst hy
  obtain ⟨a, cap, e2, _, hel⟩ := open_row Tryf.underlying29 Tryf.cells9 h2
  simp only [List.cons.injEq, and_true] at e0 e1 e2
  have hcell : ∀ i, i < 4 → W.cell? (a.add i) = some (.string (txt i)) := fun i hi => by
    obtain ⟨v, m, q', hc, hr⟩ := hel i (.lit (.string (txt i).data.toList)) (by
      match i, hi with
      | 0, _ => rfl
      | 1, _ => rfl
      | 2, _ => rfl
      | 3, _ => rfl)
    obtain ⟨s, es, ed, _⟩ := DataW.trod_string Tryf.underlying9 hr
    simp only [List.cons.injEq, and_true, Prod.mk.injEq, DataW.lit.injEq, Lit.string.injEq] at es ed
    rw [hc, es, text_of ed.1.symm]
  obtain ⟨b, off, spot⟩ := a
  have hspot : spot = none := by simpa [Addr.add] using World.cell?_spot (hcell 0 (by omega))
  subst hspot
  have hca : cs = #[c0, c1, c2] := by cases cs; simp_all
  have hc := World.var?_cell hg hv
  rw [hca] at hc
  refine ⟨b, off, cap, T, M, ?_, ?_, ?_, fun i hi => ?_⟩
  · have := hc 0; rw [this]; simp [e0]
  · have := hc 1; rw [this]; simp [e1]
  · have := hc 2; rw [this]; simp [e2]
  · have := hcell i hi
    rwa [Addr.add_lit] at this

/-- The door's own heap meets the condition. -/
theorem door_met (os : Os) (args : Array Value) : laidMetH Tryf.prog Rows.fnEventKindTextRoundTripRow.laid ((World.doorLaid Tryf.prog 15 os).forCall (fun _ _ => 0) ⟨#[], args, []⟩).memory :=
  laidMetH_of_parts3 (fuel := 8) (laidMet_of_run' 8 (by kernel_rfl) (by kernel_rfl)) (by kernel_rfl) (by kernel_rfl)

theorem witness_row (os : Os) {H : Type} (enc : TypeId × Value → H) :
    (OpenSpec.ofChange Rows.fnEventKindTextRoundTripSpec).preRow enc Tryf.prog Tryf.f3 Rows.fnEventKindTextRoundTripRow.domain false Rows.fnEventKindTextRoundTripRow.laid ((World.doorLaid Tryf.prog 15 os).forCall (fun _ _ => 0) ⟨#[], #[.int .i64 0, .int .i64 0], []⟩).memory #[.int .i64 0, .int .i64 0] :=
  OpenSpec.preRow_of_B rfl 8 (by kernel_rfl) (by kernel_rfl) (door_met os _)

set_option maxRecDepth 100000 in
theorem lifted (os : Os) (started : os.Started) (H : Type) (enc : TypeId × Value → H) :
    ReturnsInTold none {} Tryf.checked os 3 .any Input.okWide ((OpenSpec.ofChange Rows.fnEventKindTextRoundTripSpec).preRow enc Tryf.prog Tryf.f3 Rows.fnEventKindTextRoundTripRow.domain false Rows.fnEventKindTextRoundTripRow.laid)
      (fun F => ((OpenSpec.ofChange Rows.fnEventKindTextRoundTripSpec).at F).post enc Tryf.prog Tryf.f3 false true false false) (aloneAtReturn Tryf.prog) nothingAlways := by
  refine returnsInTold_of_row (C := Tryf.checked) (s := OpenSpec.ofChange Rows.fnEventKindTextRoundTripSpec) (by kernel_rfl) own started (by kernel_rfl) Tryf.func3
    (OpenSpec.witness_stopped_atRef (enc := enc) (C := Tryf.checked) false (World.doorLaid Tryf.prog 15 os) #[.int .i64 0, .int .i64 0] rfl (by kernel_rfl) (by kernel_rfl) (by kernel_rfl) (witness_row os enc)) ?_
  intro F W base args ds gs before _ hF hval0 hW _ _ _ hL _
  have hval : ∀ (j : Nat) t v, Tryf.f3.params[j]? = some t → args[j]? = some v → Value.okWide Tryf.prog W .any base t v := hval0
  have hW' := hW
  obtain ⟨p, q, hA0, hV0, rfl, _, _⟩ := hW
  have hA : DataW.TrodAll enc Tryf.prog W 0 (fun _ => true) true Tryf.f3.params.toList args.toList ds p := hA0
  have hV : DataW.TrodVars enc Tryf.prog W (fun _ => true) [vName] gs q := hV0
  rw [Tryf.params3] at hA hval
  obtain ⟨v0, v1, d0, d1, p0, p1, rfl, rfl, rfl, h0, h1⟩ := trodAll_two hA
  obtain ⟨g, t, cs, fuel, d, p', rfl, hg, ht, hvar, hd, rfl⟩ := trodVars_one hV
  obtain rfl := Option.some.inj (gNames.symm.trans hg)
  obtain rfl := Option.some.inj (tNames.symm.trans ht)
  obtain ⟨a0, rfl, rfl, rfl, w0⟩ := open_int Tryf.underlying3 (hval 0 3 v0 rfl rfl) h0
  obtain ⟨a1, rfl, rfl, rfl, w1⟩ := open_int Tryf.underlying3 (hval 1 3 v1 rfl rfl) h1
  obtain ⟨b, off, cap, T, M, hN⟩ := of_laid hL
  clear hA0 hV0 hval0 hA hV
  have hltv : ∀ x ∈ p', x.block < W.heap.size := fun x hx => hW'.lt x (List.mem_append_right _ (List.mem_append_right _ hx))
  have h0lt : 0 < W.heap.size := World.block_lt_of_cell? _ _ hN.1
  refine (law_any b off cap T M a0 a1 W hN).mono fun e W' ⟨he, hB⟩ => ?_
  subst he
  obtain ⟨fuel', hd'⟩ := Below.trod laidOut (by kernel_rfl) (of_decide_eq_true (by kernel_rfl)) (v := .agg cs) (⟨fuel, by simpa [Value.cells] using hd⟩ : DataW.Trod enc Tryf.prog W 0 (fun _ => true) true 31 (.agg cs) d p') hB hltv
  have hv' := trodVars_mk1 (enc := enc) (spare := fun b => decide (b < W.heap.size)) hg ht (var?_below hB hg h0lt hvar) (by simpa [Value.cells] using hd')
  exact ⟨_, rfl, _, _, _, [], [], (MemPlace.row ⟨0, 0, none⟩ cs.size ++ p'), hW', trodAll_mk1 (shut_bool Tryf.underlying4 _), trodAll_mk2 (shut_int Tryf.underlying3 w0) (shut_int Tryf.underlying3 w1), hv', hB.frame _, fun h => by cases h⟩

theorem laidOutP : laidOutB Tryf.pinned.checked.prog = true := by kernel_rfl
theorem stopsP : Tryf.pinned.checked.prog.stops = Rows.fnEventKindTextRoundTripRow.stops := by kernel_rfl
theorem knobsP : Tryf.pinned.checked.prog.stopKnobs = [] := by kernel_rfl
theorem quietP (os : Os) : Stop.quiet Tryf.pinned.checked.prog os := by
  intro k hk
  rw [knobsP] at hk
  cases hk

theorem proved : Rows.FnEventKindTextRoundTripToldSaid :=
  Claim7.holds_of_told_tied_any_at .later 3 Tryf.f3 _ _ [] _ _ _ _ _ (by kernel_rfl) rfl rfl rfl laidOutP (by kernel_rfl) rfl ⟨rfl, rfl, rfl, rfl, rfl, rfl, rfl⟩ rfl rfl (by kernel_rfl) (by kernel_rfl) Tryf.func3 (by kernel_rfl)
    (of_decide_eq_true (by kernel_rfl)) (of_decide_eq_true (by kernel_rfl)) stopsP.symm rfl knobsP.symm (by kernel_rfl)
    (by kernel_rfl) (by kernel_rfl) (by kernel_rfl) (by kernel_rfl) (by kernel_rfl) (by kernel_rfl) (by kernel_rfl) (by kernel_rfl) (by kernel_rfl) rfl (by kernel_rfl) rfl rfl
    rfl rfl
    rfl (by kernel_rfl) (by kernel_rfl) (by kernel_rfl) (by decide) (by kernel_rfl) fnEventKindTextRoundTrip_row_tie
    (OpenClaim.moreEntering_of (by kernel_rfl) (by kernel_rfl) (by kernel_rfl) (by kernel_rfl) (by kernel_rfl) (by kernel_rfl) (by kernel_rfl) (by kernel_rfl) (by kernel_rfl) (by kernel_rfl))
    ⟨_, WideRow.started_initial, quietP _⟩
    (fun os started _ H enc _ => lifted os started H enc)
end Go.Proofs.Qxb6616737aFmt
