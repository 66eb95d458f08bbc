import Derived.Test.Qxb6616737aFmtRows
import Derived.WalkKit
import Derived.WalkSpells
import Derived.WalkLawsBesides
import Derived.Lib.ConvBytes
namespace Go.Proofs.Qxb6616737aFmt
open Go.RowKit

theorem below_alloc (w : World) (o : Obj) : Below w.heap.size w (w.alloc o) := (Below.refl _ _).alloc (Nat.le_refl _) o

/-- The four texts, by the kind. -/
def txt : Nat → ByteArray
  | 0 => ⟨#[115, 116, 111, 112]⟩
  | 1 => ⟨#[115, 116, 97, 114, 116]⟩
  | 2 => ⟨#[109, 111, 100, 101, 61, 115, 116, 97, 110, 100, 97, 114, 100]⟩
  | _ => ⟨#[109, 111, 100, 101, 61, 117, 110, 108, 105, 109, 105, 116, 101, 100]⟩

theorem txt_apart (v : Nat) (hv : v < 4) (k : Nat) (hk : k < v) : ((txt v).toList == (txt k).toList) = false := by
  exact match v, hv, k, hk with
  | 1, _, 0, _ => by decide +kernel
  | 2, _, 0, _ => by decide +kernel
  | 2, _, 1, _ => by decide +kernel
  | 3, _, 0, _ => by decide +kernel
  | 3, _, 1, _ => by decide +kernel
  | 3, _, 2, _ => by decide +kernel

/-- The variable as it lies in the world: its first two fields' strings, its texts. -/
def Names (w : World) (b off cap : Nat) (T M : ByteArray) : Prop :=
  w.cell? ⟨0, 0, none⟩ = some (.string T) ∧ w.cell? ⟨0, 1, none⟩ = some (.string M) ∧ w.cell? ⟨0, 2, none⟩ = some (.slice (some ⟨b, off, none⟩) 4 cap) ∧ ∀ i, i < 4 → w.cell? ⟨b, off + i, none⟩ = some (.string (txt i))

set_option maxHeartbeats 400000 in
theorem namesString_any (b off cap v : Nat) (T M : ByteArray) (w : World) (hv : v < 4) (h : w.cell? ⟨b, off + v, none⟩ = some (.string (txt v))) :
    Calls Tryf.prog 6 #[.agg #[.string T, .string M, .slice (some ⟨b, off, none⟩) 4 cap], .int .i64 (v : Int)] w fun e w' => e = .returned (.string (txt v)) ∧ Below w.heap.size w w' := by
  have hb : b < w.heap.size := World.block_lt_of_cell? _ _ h
  have h4 : (v : Int) < 4 := by omega
  go_enter Tryf.func6, Tryf.ntmps6
  go_wp2
  go_ret
  exact ⟨rfl, below_alloc _ _⟩

set_option maxHeartbeats 400000 in
theorem string_any (b off cap v : Nat) (T M : ByteArray) (w : World) (hv : v < 4) (h : Names w b off cap T M) :
    Calls Tryf.prog 4 #[.int .i64 (v : Int)] w fun e w' => e = .returned (.string (txt v)) ∧ Below w.heap.size w w' := by
  obtain ⟨g0, g1, g2, g3⟩ := h
  have g := g3 v hv
  clear g3
  go_enter Tryf.func4, Tryf.ntmps4
  go_wp2_with (go_at_call 6; refine (namesString_any _ _ _ v _ _ _ hv g).mono ?_; rintro e w' ⟨rfl, hb⟩)
  go_ret
  exact ⟨rfl, hb⟩

/-- A row of bytes: the string s. -/
def BytesAt (w : World) (B : Nat) (s : ByteArray) : Prop := ∀ j (hj : j < s.data.toList.length), w.cell? ((⟨B, 0, none⟩ : Addr).add j) = some (.int .u8 (s.data.toList[j].toNat : Int))

theorem back {w : World} {B c n : Nat} {s : ByteArray} (h : BytesAt w B s) (hn : n = s.data.toList.length) : (convert 24 9 (.slice (some ⟨B, 0, none⟩) n c)).run Tryf.prog w = .ok (.string s) w := by
  subst hn
  have := run_convert_bytes_back (P := Tryf.prog) w 24 9 5 ⟨B, 0, none⟩ c s.data.toList Tryf.underlying24 Tryf.underlying5 Tryf.underlying9 h
  rw [this]

theorem BytesAt.below {w w' : World} {B : Nat} {s : ByteArray} (h : BytesAt w B s) (hb : Below w.heap.size w w') : BytesAt w' B s := fun j hj => cell_later hb (h j hj)

set_option maxHeartbeats 400000 in
theorem unmarshal_any (b off cap v B n c q : Nat) (T M : ByteArray) (w : World) (old : Value) (hv : v < 4) (h : ∀ i, i < 4 → w.cell? ⟨b, off + i, none⟩ = some (.string (txt i))) (hB : BytesAt w B (txt v)) (hn : n = (txt v).data.toList.length)
    (hq : w.cell? ⟨q, 0, none⟩ = some old) (hf : w.frozen? ⟨q, 0, none⟩ = false) :
    Calls Tryf.prog 7 #[.agg #[.string T, .string M, .slice (some ⟨b, off, none⟩) 4 cap], .slice (some ⟨B, 0, none⟩) n c, .pointer (some ⟨q, 0, none⟩)] w fun e w' =>
      e = .returned .nilIface ∧ w'.cell? ⟨q, 0, none⟩ = some (.int .i64 (v : Int)) ∧ Below q w w' := by
  have hqs : q < w.heap.size := World.block_lt_of_cell? _ _ hq
  have HN : Hid (n = (txt v).data.toList.length) := hn
  clear hn
  have hcv : ∀ o, (convert 24 9 (.slice (some ⟨B, 0, none⟩) n c)).run Tryf.prog (w.alloc o) = .ok (.string (txt v)) (w.alloc o) := fun o => back (hB.below (below_alloc _ _)) HN.out
  go_enter Tryf.func7, Tryf.ntmps7
  go_wp2
  go_loop [14] (fun i => ∃ k : Nat, k ≤ v ∧ i = .int .i64 k) (fun i => v - (intOf i).toNat)
  case atStart => exact ⟨0, Nat.zero_le _, rfl⟩
  case round =>
    obtain ⟨k, hk, rfl⟩ := hrel
    have g := h k (by omega)
    have hb : b < w.heap.size := World.block_lt_of_cell? _ _ g
    have hk4 : (k : Int) < 4 := by omega
    clear h
    by_cases hlt : k < v
    · have hne := txt_apart v hv k hlt
      generalize txt v = tv at *
      generalize txt k = tk at *
      go_wp2
      go_round
      case rel => exact ⟨k + 1, by omega, by go_num⟩
      case measure => simp [intOf]; omega
    · obtain rfl : k = v := by omega
      generalize txt k = tk at *
      go_wp2
      go_ret
      refine ⟨rfl, ?_, ?_⟩
      · exact cell_later (below_alloc _ _) (World.cell?_setCell_same _ _ _ hq)
      · have b1 : Below q w (w.setCell ⟨q, 0, none⟩ (.int .i64 (k : Int))) := (Below.refl q w).setCell (p := ⟨q, 0, none⟩) (Nat.le_refl _) _
        exact b1.alloc (by have := b1.size; omega) _

set_option maxHeartbeats 400000 in
theorem unmarshalText_any (b off cap v B n c q : Nat) (T M : ByteArray) (w : World) (old : Value) (hv : v < 4) (h : Names w b off cap T M) (hB : BytesAt w B (txt v)) (hn : n = (txt v).data.toList.length)
    (hq : w.cell? ⟨q, 0, none⟩ = some old) (hf : w.frozen? ⟨q, 0, none⟩ = false) :
    Calls Tryf.prog 5 #[.pointer (some ⟨q, 0, none⟩), .slice (some ⟨B, 0, none⟩) n c] w fun e w' =>
      e = .returned .nilIface ∧ w'.cell? ⟨q, 0, none⟩ = some (.int .i64 (v : Int)) ∧ Below q w w' := by
  obtain ⟨g0, g1, g2, g3⟩ := h
  have HG : Hid (∀ i, i < 4 → w.cell? ⟨b, off + i, none⟩ = some (.string (txt i))) := g3
  have HB : Hid (BytesAt w B (txt v)) := hB
  have HN : Hid (n = (txt v).data.toList.length) := hn
  clear g3 hB hn
  go_enter Tryf.func5, Tryf.ntmps5
  go_wp2_with (go_at_call 7; refine (unmarshal_any _ _ _ v _ _ _ _ _ _ _ old hv HG.out HB.out HN.out hq hf).mono ?_; rintro e w' ⟨rfl, hc, hb⟩)
  go_ret
  exact ⟨rfl, hc, hb⟩

theorem conv_bytes (w : World) (s : ByteArray) : (convert 9 24 (.string s)).run Tryf.prog w = .ok (.slice (some ⟨w.heap.size, 0, none⟩) s.size (grownCap w s.size 0 5)) (Lib.bytesWorld w 5 s) :=
  Lib.run_convert_string_bytes w 9 24 5 s Tryf.underlying9 Tryf.underlying24 Tryf.underlying5

theorem bytes_below (w : World) (s : ByteArray) : Below w.heap.size w (Lib.bytesWorld w 5 s) := by
  refine ⟨rfl, rfl, rfl, by rw [Lib.bytesWorld_size]; omega, fun k hk => Lib.bytesWorld_at_old w 5 s k hk⟩

theorem bytes_at (w : World) (s : ByteArray) : BytesAt (Lib.bytesWorld w 5 s) w.heap.size s := by
  intro j hj
  rw [Addr.add_lit, Nat.zero_add, Lib.bytesWorld_cell w 5 s j (by simpa using hj)]
  rw [List.getD, List.getElem?_eq_getElem hj]
  rfl

theorem Names.below {w w' : World} {b off cap : Nat} {T M : ByteArray} (h : Names w b off cap T M) (hb : Below w.heap.size w w') : Names w' b off cap T M :=
  ⟨cell_later hb h.1, cell_later hb h.2.1, cell_later hb h.2.2.1, fun i hi => cell_later hb (h.2.2.2 i hi)⟩

set_option maxHeartbeats 400000 in
theorem law_in (b off cap v : Nat) (T M : ByteArray) (start : Int) (w : World) (hv : v < 4) (h : Names w b off cap T M) :
    Calls Tryf.prog 3 #[.int .i64 (v : Int), .int .i64 start] w fun e w' => e = .returned (.bool true) ∧ Below w.heap.size w w' := by
  have HH : Hid (Names w b off cap T M) := h
  clear h
  have hv3 : (v : Int) ≤ 3 := by omega
  go_enter Tryf.func3, Tryf.ntmps3
  go_wp2_with fail
  refine (string_any b off cap v T M _ hv HH.out).mono ?_
  rintro e w1 ⟨rfl, hb1⟩
  have H1 : Hid (Names w1 b off cap T M) := HH.out.below hb1
  have B1 : Hid (Below w.heap.size w w1) := hb1
  clear hb1
  have hcv := conv_bytes w1 (txt v)
  generalize hW : Lib.bytesWorld w1 5 (txt v) = w2 at hcv
  have B2 : Hid (Below w1.heap.size w1 w2) := by rw [← hW]; exact bytes_below _ _
  have H2 : Hid (Names w2 b off cap T M) := H1.out.below B2.out
  have Y2 : Hid (BytesAt w2 w1.heap.size (txt v)) := by rw [← hW]; exact bytes_at _ _
  clear hW
  go_wp2_with fail
  refine (unmarshalText_any b off cap v w1.heap.size _ _ w2.heap.size T M _ (.int .i64 start) hv (H2.out.below (below_alloc _ _)) (Y2.out.below (below_alloc _ _)) (by rfl) (by simp) (by simp)).mono ?_
  rintro e w3 ⟨rfl, hc3, hb3⟩
  have B3 : Hid (Below w.heap.size w w3) := (B1.out.trans (B2.out.mono B1.out.size)).trans (((below_alloc w2 _).trans hb3).mono (Nat.le_trans B1.out.size B2.out.size))
  go_wp2
  go_ret
  exact ⟨rfl, B3.out⟩

set_option maxHeartbeats 400000 in
theorem law_out (v start : Int) (w : World) (hv : v < 0 ∨ 3 < v) :
    Calls Tryf.prog 3 #[.int .i64 v, .int .i64 start] w fun e w' => e = .returned (.bool true) ∧ Below w.heap.size w w' := by
  rcases hv with hv | hv
  · go_enter Tryf.func3, Tryf.ntmps3
    go_wp2
    go_ret
    exact ⟨rfl, Below.refl _ _⟩
  · go_enter Tryf.func3, Tryf.ntmps3
    go_wp2
    go_ret
    exact ⟨rfl, Below.refl _ _⟩

theorem law_any (b off cap : Nat) (T M : ByteArray) (v start : Int) (w : World) (h : Names w b off cap T M) :
    Calls Tryf.prog 3 #[.int .i64 v, .int .i64 start] w fun e w' => e = .returned (.bool true) ∧ Below w.heap.size w w' := by
  by_cases hv : v < 0 ∨ 3 < v
  · exact law_out v start w hv
  · obtain ⟨n, rfl⟩ := Int.eq_ofNat_of_zero_le (show 0 ≤ v by omega)
    exact law_in b off cap n T M start w (by omega) h
end Go.Proofs.Qxb6616737aFmt
