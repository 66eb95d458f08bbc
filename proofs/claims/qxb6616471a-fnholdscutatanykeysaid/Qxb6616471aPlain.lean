/-
  The plain mathematics of 'a holder holds r exactly when it holds both pieces of r cut at a key inside it': no Go in sight. Keys are byte strings in bytewise order, none is the open end.
-/
import Derived.Lib.Bytealg
namespace Go.Proofs.Qxb6616471a

def cmpB (a b : List UInt8) : Int := Lib.compareBytes a b

theorem cmpB_nil : cmpB [] [] = 0 := rfl
theorem cmpB_cons (x y : UInt8) (a b : List UInt8) : cmpB (x :: a) (y :: b) = if x < y then -1 else if y < x then 1 else cmpB a b := by
  unfold cmpB; rw [Lib.compareBytes]

theorem cmpB_self : ∀ a : List UInt8, cmpB a a = 0
  | [] => rfl
  | x :: a => by rw [cmpB_cons, if_neg (UInt8.lt_irrefl x), if_neg (UInt8.lt_irrefl x)]; exact cmpB_self a

theorem cmpB_neg : ∀ a b : List UInt8, cmpB b a = - cmpB a b
  | [], [] => rfl
  | [], _ :: _ => rfl
  | _ :: _, [] => rfl
  | x :: a, y :: b => by
    rw [cmpB_cons, cmpB_cons]
    by_cases h : x < y
    · have h' : ¬ y < x := UInt8.lt_asymm h
      simp [h, h']
    · by_cases h2 : y < x
      · simp [h, h2]
      · simp [h, h2]; exact cmpB_neg a b

theorem cmpB_trans : ∀ a b c : List UInt8, cmpB a b ≤ 0 → cmpB b c ≤ 0 → cmpB a c ≤ 0
  | [], _, [] => fun _ _ => by simp [cmpB_nil]
  | [], _, _ :: _ => fun _ _ => by show (-1 : Int) ≤ 0; decide
  | _ :: _, [], _ => fun h _ => absurd h (by show ¬ (1 : Int) ≤ 0; decide)
  | _ :: _, _ :: _, [] => fun _ h => absurd h (by show ¬ (1 : Int) ≤ 0; decide)
  | x :: a, y :: b, z :: c => fun h1 h2 => by
    rw [cmpB_cons] at h1 h2 ⊢
    have e1 : x < y ∨ (x = y ∧ cmpB a b ≤ 0) := by
      by_cases h : x < y
      · exact .inl h
      · rw [if_neg h] at h1
        by_cases h' : y < x
        · rw [if_pos h'] at h1; exact absurd h1 (by decide)
        · rw [if_neg h'] at h1
          exact .inr ⟨UInt8.le_antisymm (UInt8.not_lt.1 h') (UInt8.not_lt.1 h), h1⟩
    have e2 : y < z ∨ (y = z ∧ cmpB b c ≤ 0) := by
      by_cases h : y < z
      · exact .inl h
      · rw [if_neg h] at h2
        by_cases h' : z < y
        · rw [if_pos h'] at h2; exact absurd h2 (by decide)
        · rw [if_neg h'] at h2
          exact .inr ⟨UInt8.le_antisymm (UInt8.not_lt.1 h') (UInt8.not_lt.1 h), h2⟩
    rcases e1 with e1 | ⟨rfl, e1⟩
    · rcases e2 with e2 | ⟨rfl, e2⟩
      · rw [if_pos (UInt8.lt_trans e1 e2)]; decide
      · rw [if_pos e1]; decide
    · rcases e2 with e2 | ⟨rfl, e2⟩
      · rw [if_pos e2]; decide
      · rw [if_neg (UInt8.lt_irrefl x), if_neg (UInt8.lt_irrefl x)]; exact cmpB_trans a b c e1 e2

/-- What is not at most is above. -/
theorem cmpB_lt_not {a b : List UInt8} (h : cmpB a b < 0) : ¬ cmpB b a ≤ 0 := by rw [cmpB_neg a b]; omega

/-- The comparison of what is left behind k equal bytes. -/
theorem cmpB_drop (xs ys : List UInt8) (k : Nat) (h1 : k < xs.length) (h2 : k < ys.length) :
    cmpB (xs.drop k) (ys.drop k) = if xs.getD k 0 < ys.getD k 0 then -1 else if ys.getD k 0 < xs.getD k 0 then 1 else cmpB (xs.drop (k + 1)) (ys.drop (k + 1)) := by
  rw [List.drop_eq_getElem_cons h1, List.drop_eq_getElem_cons h2, cmpB_cons]
  simp [List.getD, h1, h2]

theorem cmpB_end (xs ys : List UInt8) (k : Nat) (h : k = xs.length ∨ k = ys.length) (h1 : k ≤ xs.length) (h2 : k ≤ ys.length) :
    cmpB (xs.drop k) (ys.drop k) = if xs.length < ys.length then -1 else if ys.length < xs.length then 1 else 0 := by
  rcases h with rfl | rfl
  · by_cases h3 : xs.length < ys.length
    · rw [if_pos h3, List.drop_length, List.drop_eq_getElem_cons h3]; rfl
    · have : ys.length = xs.length := by omega
      rw [if_neg h3, if_neg (by omega), List.drop_length, ← this, List.drop_length]; rfl
  · by_cases h3 : ys.length < xs.length
    · rw [if_neg (by omega), if_pos h3, List.drop_length, List.drop_eq_getElem_cons h3]; rfl
    · have : xs.length = ys.length := by omega
      rw [if_neg (by omega), if_neg h3, List.drop_length, ← this, List.drop_length]; rfl

/-! ### Ranges -/
def loOk : Option (List UInt8) → Option (List UInt8) → Bool
  | none, _ => true
  | some _, none => false
  | some a, some b => decide (cmpB a b ≤ 0)
def hiOk : Option (List UInt8) → Option (List UInt8) → Bool
  | none, _ => true
  | some _, none => false
  | some a, some b => decide (cmpB b a ≤ 0)
/-- Every key of s lies in r. -/
def cont (r s : Option (List UInt8) × Option (List UInt8)) : Bool := loOk r.1 s.1 && hiOk r.2 s.2
def holdsL (l : List (Option (List UInt8) × Option (List UInt8))) (r : Option (List UInt8) × Option (List UInt8)) : Bool := l.any fun h => cont h r
def nonE : Option (List UInt8) × Option (List UInt8) → Bool
  | (some a, some b) => decide (cmpB a b ≤ 0)
  | _ => true
/-- The one is wholly below the other. -/
def belowR (r s : Option (List UInt8) × Option (List UInt8)) : Prop := ∃ h l, r.2 = some h ∧ s.1 = some l ∧ cmpB h l < 0
/-- Nonempty ranges, each wholly below the next. -/
def Chain (l : List (Option (List UInt8) × Option (List UInt8))) (k : Nat) : Prop :=
  (∀ i, i < k → nonE (l.getD i (none, none)) = true) ∧ ∀ i, i + 1 < k → belowR (l.getD i (none, none)) (l.getD (i + 1) (none, none))

theorem chain_below {l : List (Option (List UInt8) × Option (List UInt8))} {n : Nat} (h : Chain l n) (i d : Nat) (hd : i + d + 1 < n) : belowR (l.getD i (none, none)) (l.getD (i + d + 1) (none, none)) := by
  induction d with
  | zero => exact h.2 i hd
  | succ d ih =>
    obtain ⟨hh, ll, e1, e2, c1⟩ := ih (by omega)
    obtain ⟨h2, l2, f1, f2, c2⟩ := h.2 (i + d + 1) (by omega)
    have hne := h.1 (i + d + 1) (by omega)
    refine ⟨hh, l2, e1, f2, ?_⟩
    have h3 : cmpB ll h2 ≤ 0 := by
      generalize l.getD (i + d + 1) (none, none) = p at *
      obtain ⟨p1, p2⟩ := p
      simp only at e2 f1
      subst e2 f1
      simpa [nonE] using hne
    have : ¬ cmpB l2 hh ≤ 0 := fun hc => by
      have a1 := cmpB_trans l2 hh ll hc (by omega)
      have a2 := cmpB_trans l2 ll h2 a1 h3
      exact cmpB_lt_not c2 a2
    rw [cmpB_neg] at this
    omega

/-- A range that contains a piece with the key m at its end holds m. -/
theorem one_holds (r : Option (List UInt8) × Option (List UInt8)) (m : List UInt8) (hl : ∀ a, r.1 = some a → cmpB a m ≤ 0) (hh : ∀ b, r.2 = some b → cmpB m b ≤ 0) :
    holdsL [r] (r.1, some m) = true ∧ holdsL [r] (some m, r.2) = true := by
  obtain ⟨r1, r2⟩ := r
  simp only [holdsL, List.any_cons, List.any_nil, Bool.or_false, cont, Bool.and_eq_true]
  refine ⟨⟨?_, ?_⟩, ?_, ?_⟩
  · cases r1 <;> simp [loOk, cmpB_self]
  · cases r2 with
    | none => rfl
    | some b => simpa [hiOk] using hh b rfl
  · cases r1 with
    | none => rfl
    | some a => simpa [loOk] using hl a rfl
  · cases r2 <;> simp [hiOk, cmpB_self]

theorem cont_lo {h : Option (List UInt8) × Option (List UInt8)} {r : Option (List UInt8) × Option (List UInt8)} {m : List UInt8} (hh : ∀ b, r.2 = some b → cmpB m b ≤ 0) (hc : cont h r = true) : cont h (r.1, some m) = true := by
  obtain ⟨h1, h2⟩ := h
  obtain ⟨r1, r2⟩ := r
  simp only [cont, Bool.and_eq_true] at hc ⊢
  refine ⟨hc.1, ?_⟩
  cases h2 with
  | none => rfl
  | some b =>
    cases r2 with
    | none => simp [hiOk] at hc
    | some b' => simp only [hiOk, decide_eq_true_eq] at hc ⊢; exact cmpB_trans _ _ _ (hh b' rfl) hc.2

theorem cont_hi {h : Option (List UInt8) × Option (List UInt8)} {r : Option (List UInt8) × Option (List UInt8)} {m : List UInt8} (hl : ∀ a, r.1 = some a → cmpB a m ≤ 0) (hc : cont h r = true) : cont h (some m, r.2) = true := by
  obtain ⟨h1, h2⟩ := h
  obtain ⟨r1, r2⟩ := r
  simp only [cont, Bool.and_eq_true] at hc ⊢
  refine ⟨?_, hc.2⟩
  cases h1 with
  | none => rfl
  | some b =>
    cases r1 with
    | none => simp [loOk] at hc
    | some b' => simp only [loOk, decide_eq_true_eq] at hc ⊢; exact cmpB_trans _ _ _ hc.1 (hl b' rfl)

/-- Two ranges, the one wholly below the other, do not both hold m. -/
theorem not_both {x y : Option (List UInt8) × Option (List UInt8)} {m : List UInt8} (h : belowR x y) (hx : hiOk x.2 (some m) = true) (hy : loOk y.1 (some m) = true) : False := by
  obtain ⟨hh, ll, e1, e2, c⟩ := h
  rw [e1] at hx
  rw [e2] at hy
  simp only [hiOk, loOk, decide_eq_true_eq] at hx hy
  exact cmpB_lt_not c (cmpB_trans _ _ _ hy hx)

theorem holds_cut (l : List (Option (List UInt8) × Option (List UInt8))) (hch : Chain l l.length) (r : Option (List UInt8) × Option (List UInt8)) (m : List UInt8)
    (hl : ∀ a, r.1 = some a → cmpB a m ≤ 0) (hh : ∀ b, r.2 = some b → cmpB m b ≤ 0) :
    holdsL l r = (holdsL l (r.1, some m) && holdsL l (some m, r.2)) := by
  rw [Bool.eq_iff_iff, Bool.and_eq_true]
  simp only [holdsL, List.any_eq_true]
  constructor
  · rintro ⟨x, hx, hc⟩
    exact ⟨⟨x, hx, cont_lo hh hc⟩, ⟨x, hx, cont_hi hl hc⟩⟩
  · rintro ⟨⟨x, hx, hc⟩, ⟨y, hy, hd⟩⟩
    obtain ⟨i, hi, rfl⟩ := List.getElem_of_mem hx
    obtain ⟨j, hj, rfl⟩ := List.getElem_of_mem hy
    have gi : l.getD i (none, none) = l[i] := by simp [List.getD, hi]
    have gj : l.getD j (none, none) = l[j] := by simp [List.getD, hj]
    simp only [cont, Bool.and_eq_true] at hc hd
    -- both hold m
    have xi_lo : loOk l[i].1 (some m) = true := by
      cases h1 : l[i].1 with
      | none => rfl
      | some a =>
        have := hc.1
        rw [h1] at this
        cases h2 : r.1 with
        | none => rw [h2] at this; simp [loOk] at this
        | some b => rw [h2] at this; simp only [loOk, decide_eq_true_eq] at this ⊢; exact cmpB_trans _ _ _ this (hl b h2)
    have yj_hi : hiOk l[j].2 (some m) = true := by
      cases h1 : l[j].2 with
      | none => rfl
      | some a =>
        have := hd.2
        rw [h1] at this
        cases h2 : r.2 with
        | none => rw [h2] at this; simp [hiOk] at this
        | some b => rw [h2] at this; simp only [hiOk, decide_eq_true_eq] at this ⊢; exact cmpB_trans _ _ _ (hh b h2) this
    rcases Nat.lt_trichotomy i j with hlt | heq | hgt
    · have hb := chain_below hch i (j - i - 1) (by omega)
      rw [show i + (j - i - 1) + 1 = j by omega, gi, gj] at hb
      exact (not_both hb hc.2 hd.1).elim
    · subst heq
      exact ⟨l[i], hx, by simp only [cont, Bool.and_eq_true]; exact ⟨hc.1, hd.2⟩⟩
    · have hb := chain_below hch j (i - j - 1) (by omega)
      rw [show j + (i - j - 1) + 1 = i by omega, gi, gj] at hb
      exact (not_both hb yj_hi xi_lo).elim

end Go.Proofs.Qxb6616471a
