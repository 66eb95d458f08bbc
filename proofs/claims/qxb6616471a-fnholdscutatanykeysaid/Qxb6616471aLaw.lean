import Derived.Test.Qxb6616471aW10
import Derived.ProofKit
import Derived.ChangeOld
import Derived.Deep.SlicePairs
import Derived.Lib.SmallJoins
namespace Go.Proofs.Qxb6616471a
open Go.ChangeShapes Go.WideShapes Go.ChangeAt Go.RowKit

theorem own : ownKnob Try.prog.godebug = none := by kernel_rfl
theorem laidOut : laidOutB Try.prog = true := by kernel_rfl
theorem Try.cells5 : Try.prog.cellsOf 5 = 1 := by kernel_rfl
theorem Try.cells35 : Try.prog.cellsOf 35 = 1 := by kernel_rfl
theorem Try.cells37 : Try.prog.cellsOf 37 = 2 := by kernel_rfl

theorem byte_back {z : Int} (h : (Lit.int .u8 z).wf = true) : ((UInt8.ofNat z.toNat).toNat : Int) = z := by
  simp [Lit.wf, IntKind.min, IntKind.max, IntKind.signed, IntKind.bits] at h
  simp
  omega

/-- What a cell that reads as a []byte holds. -/
theorem key_of {H : Type} {enc : TypeId × Value → H} {W : World} {fuel : Nat} {v : Value} {x : DataW H × List MemPlace} (h : DataW.trod enc Try.prog W 0 (fun _ => true) true fuel 35 [v] = some x) :
    ∃ ao n c k, v = .slice ao n c ∧ (n ≤ 1048576 → KS W ao n c k) := by
  rcases open_ints Try.underlying35 Try.underlying5 Try.cells5 h with ⟨hcs, _⟩ | ⟨a, len, cap, zs, hcs, _, hl, hm, hz, _, hcell, hwz⟩
  · simp at hcs
    exact ⟨none, 0, 0, none, hcs, fun _ => .inl ⟨rfl, rfl, rfl, rfl⟩⟩
  · simp at hcs hz
    refine ⟨some a, len, cap, some ((zs.take len).map fun z => UInt8.ofNat z.toNat), hcs, fun hb => .inr ⟨a, _, rfl, rfl, by simp; omega, hb, fun i hi => ?_⟩⟩
    have hc := hcell i (by omega)
    obtain ⟨b, off, spot⟩ := a
    have hspot : spot = none := by simpa [Addr.add] using World.cell?_spot (hcell 0 (by omega))
    subst hspot
    refine ⟨b, off, rfl, ?_⟩
    rw [Addr.add_lit] at hc
    rw [hc]
    have hi' : i < zs.length := by omega
    have e : ((zs.take len).map fun z => UInt8.ofNat z.toNat).getD i 0 = UInt8.ofNat (zs.getD i 0).toNat := by
      simp [List.getD, hi, hi']
    rw [e, byte_back (hwz _ (by simp [List.getD, hi']))]

/-- What the walk is told of the slice of ranges. -/
theorem ranges_of {H : Type} {enc : TypeId × Value → H} {W : World} {a0 : Option Addr} {len cap : Nat} {d : DataW H} {p : List MemPlace} (h : DataW.Trod enc Try.prog W 0 (fun _ => true) true 34 (.slice a0 len cap) d p) :
    ∃ (L : List (Option (List UInt8) × Option (List UInt8))) (LA HA : Nat → Option Addr) (LN LC HN HC : Nat → Nat), L.length = len ∧ len ≤ maxLen ∧
      (∀ i, i < len → ∃ b off, a0 = some ⟨b, off, none⟩ ∧ W.cell? ⟨b, off + i * 2, none⟩ = some (.slice (LA i) (LN i) (LC i)) ∧ W.cell? ⟨b, off + i * 2 + 1, none⟩ = some (.slice (HA i) (HN i) (HC i))) ∧
      (∀ i, i < len → LN i ≤ 1048576 → KS W (LA i) (LN i) (LC i) (L.getD i (none, none)).1) ∧ (∀ i, i < len → HN i ≤ 1048576 → KS W (HA i) (HN i) (HC i) (L.getD i (none, none)).2) := by
  obtain ⟨fuel, hf⟩ := h
  rcases Deep.open_slice_pairs Try.underlying34 Try.underlying37 Try.cells37 rfl rfl Try.cells35 Try.cells35 hf with ⟨hcs, _⟩ | ⟨a, len', cap', m, n, V0, V1, D0, D1, P0, P1, hcs, _, hl, hm, hmm, _, hx⟩
  · simp [Value.cells] at hcs
    obtain ⟨rfl, rfl, rfl⟩ := hcs
    exact ⟨[], fun _ => none, fun _ => none, fun _ => 0, fun _ => 0, fun _ => 0, fun _ => 0, rfl, Nat.zero_le _, fun i hi => absurd hi (by omega), fun i hi => absurd hi (by omega), fun i hi => absurd hi (by omega)⟩
  · simp [Value.cells] at hcs
    obtain ⟨rfl, rfl, rfl⟩ := hcs
    simp at hmm
    subst hmm
    obtain ⟨F, hF⟩ := Deep.choose_lt (α := (Option Addr × Nat × Nat × Option (List UInt8)) × (Option Addr × Nat × Nat × Option (List UInt8))) (n := len)
      (p := fun i q => W.cell? (a.add (i * 2)) = some (.slice q.1.1 q.1.2.1 q.1.2.2.1) ∧ W.cell? (a.add (i * 2 + 1)) = some (.slice q.2.1 q.2.2.1 q.2.2.2.1) ∧ (q.1.2.1 ≤ 1048576 → KS W q.1.1 q.1.2.1 q.1.2.2.1 q.1.2.2.2) ∧ (q.2.2.1 ≤ 1048576 → KS W q.2.1 q.2.2.1 q.2.2.2.1 q.2.2.2.2)) (fun i hi => by
        obtain ⟨h1, h2, h3, h4⟩ := hx i (by omega)
        obtain ⟨ao, n1, c1, k1, e1, g1⟩ := key_of h3
        obtain ⟨bo, n2, c2, k2, e2, g2⟩ := key_of h4
        exact ⟨((ao, n1, c1, k1), (bo, n2, c2, k2)), by rw [h1, e1], by rw [h2, e2], g1, g2⟩)
    have hget : ∀ i, i < len → ((List.range len).map fun i => ((F i).1.2.2.2, (F i).2.2.2.2)).getD i (none, none) = ((F i).1.2.2.2, (F i).2.2.2.2) := fun i hi => by simp [List.getD, hi]
    refine ⟨(List.range len).map fun i => ((F i).1.2.2.2, (F i).2.2.2.2), fun i => (F i).1.1, fun i => (F i).2.1, fun i => (F i).1.2.1, fun i => (F i).1.2.2.1, fun i => (F i).2.2.1, fun i => (F i).2.2.2.1, by simp, by omega, fun i hi => ?_, fun i hi hb => ?_, fun i hi hb => ?_⟩
    · obtain ⟨b, off, spot⟩ := a
      have hspot : spot = none := by simpa [Addr.add] using World.cell?_spot (hF 0 (by omega)).1
      subst hspot
      obtain ⟨h1, h2, _, _⟩ := hF i hi
      rw [Addr.add_lit] at h1 h2
      exact ⟨b, off, rfl, h1, h2⟩
    · rw [hget i hi]; exact (hF i hi).2.2.1 hb
    · rw [hget i hi]; exact (hF i hi).2.2.2 hb

set_option maxRecDepth 100000 in
theorem lifted (os : Os) (started : os.Started) (H : Type) (enc : TypeId × Value → H) :
    ReturnsInHanded {} Try.checked os 4 .any (Rows.fnHoldsCutAtAnyKeySpec.pre6 enc Try.prog Try.f4 Rows.fnHoldsCutAtAnyKeyRow.domain false) (Rows.fnHoldsCutAtAnyKeySpec.post enc Try.prog Try.f4 false true false false) := by
  refine returnsInHanded_of_change (C := Try.checked) own started (by kernel_rfl) Try.func4
    (ChangeSpec.witness6 (enc := enc) (C := Try.checked) false ⟨#[], #[.slice none 0 0, .agg #[.slice none 0 0, .slice none 0 0], .slice none 0 0], []⟩ 8 (by kernel_rfl) (by kernel_rfl) (by kernel_rfl) (by kernel_rfl)) ?_
  intro W base args ds gs before hval0 hW hcnd _
  have hval : ∀ (j : Nat) t v, Try.f4.params[j]? = some t → args[j]? = some v → Value.okWide Try.prog W .any base t v := hval0
  have hW' := hW
  obtain ⟨p, q, hA0, hV, rfl, hfz, hnd⟩ := hW
  have hA : DataW.TrodAll enc Try.prog W 0 (fun _ => true) true Try.f4.params.toList args.toList ds p := hA0
  rw [Try.params4] at hA hval
  obtain ⟨v0, v1, v2, d0, d1, d2, p0, p1, p2, rfl, rfl, rfl, h0, h1, h2⟩ := trodAll_three hA
  obtain ⟨rfl, rfl⟩ := trodVars_none hV
  have k0 := h0
  have k1 := h1
  have k2 := h2
  have lt0 : ∀ x ∈ p0, x.block < W.heap.size := by obtain ⟨m, hm⟩ := k0; exact DataW.trod_lt m _ _ _ hm
  have lt1 : ∀ x ∈ p1, x.block < W.heap.size := by obtain ⟨m, hm⟩ := k1; exact DataW.trod_lt m _ _ _ hm
  have lt2 : ∀ x ∈ p2, x.block < W.heap.size := by obtain ⟨m, hm⟩ := k2; exact DataW.trod_lt m _ _ _ hm
  obtain ⟨a0, len0, cap0, rfl⟩ := okWide_slice Try.underlying34 (hval 0 34 v0 rfl rfl)
  obtain ⟨a2, len2, cap2, rfl⟩ := okWide_slice Try.underlying35 (hval 2 35 v2 rfl rfl)
  obtain ⟨L, LA, HA, LN, LC, HN, HC, hL, hlen, hcc, hk1, hk2⟩ := ranges_of h0
  obtain ⟨c0, c1, y0, y1, m, rfl, hd1, hp1, hy0, hy1⟩ := Joins.open_agg2 Try.underlying37 (by kernel_rfl) Try.cells37 (hval 1 37 v1 rfl rfl) h1
  obtain ⟨la, ln, lc, lo, rfl, hkl⟩ := key_of hy0
  obtain ⟨ha, hn, hc, hi, rfl, hkh⟩ := key_of hy1
  obtain ⟨ma, mn, mc, km, e2, hkm⟩ : ∃ ao n c k, Value.slice a2 len2 cap2 = .slice ao n c ∧ (n ≤ 1048576 → KS W ao n c k) := by
    obtain ⟨fuel, hf⟩ := h2
    exact key_of (by simpa [Value.cells] using hf)
  cases e2
  clear hA0 hval0
  refine (law_any a0 len0 cap0 L LA HA LN LC HN HC la ha _ ln lc hn hc _ _ lo hi km W hlen hL hcc hk1 hk2 hkl hkh hkm).mono fun e W' ⟨he, bel⟩ => ?_
  subst he
  exact ⟨_, rfl, _, _, _, [], _, [], hW', trodAll_mk1 (shut_bool Try.underlying4 _), trodAll_mk3 (Below.trod laidOut (by kernel_rfl) (of_decide_eq_true (by kernel_rfl)) k0 bel lt0) (Below.trod laidOut (by kernel_rfl) (of_decide_eq_true (by kernel_rfl)) k1 bel lt1) (Below.trod laidOut (by kernel_rfl) (of_decide_eq_true (by kernel_rfl)) k2 bel lt2), rfl, bel.frame _, fun h => by cases h⟩

theorem proved : Rows.FnHoldsCutAtAnyKeySaid :=
  OpenClaim.holds_of_wide 4 Try.f4 rfl rfl rfl rfl rfl rfl rfl ⟨rfl, rfl, rfl, rfl, rfl⟩ rfl rfl rfl rfl rfl (by kernel_rfl) Try.func4 (by kernel_rfl)
    (of_decide_eq_true (by kernel_rfl)) (by unfold Func.isWrapper; first | (rw [if_pos (by decide +kernel)]; kernel_rfl) | (rw [if_neg (by decide +kernel)]; exact ⟨rfl, rfl⟩))
    (fun os started H enc _ => lifted os started H enc)
end Go.Proofs.Qxb6616471a
