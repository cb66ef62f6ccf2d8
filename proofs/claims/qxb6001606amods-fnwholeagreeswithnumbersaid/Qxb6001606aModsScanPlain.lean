/-
  The plain mathematics of the scanner: positions in a list of bytes. No Go in sight.
-/
import Derived.WalkKit
namespace Go.Proofs.Qxb6001606aMods.ScanPlain

/-- The byte at a place (0 beyond the end). -/
def gt (l : List Int) (i : Nat) : Int := l[i]?.getD 0
/-- White space. -/
def isSp (x : Int) : Bool := decide (x = 32 ∨ x = 9 ∨ x = 10 ∨ x = 13)
/-- A digit. -/
def isDg (x : Int) : Bool := decide (48 ≤ x ∧ x ≤ 57)
/-- How many of the first elements meet f. -/
def runn (f : Int → Bool) : List Int → Nat
  | [] => 0
  | x :: r => if f x = true then runn f r + 1 else 0
/-- Where a run of elements that meet f, begun at i, stops. -/
def stop (f : Int → Bool) (l : List Int) (i : Nat) : Nat := i + runn f (l.drop i)
/-- Does c stand at i? -/
def skp (l : List Int) (c : Int) (i : Nat) : Bool := decide (i < l.length ∧ gt l i = c)

theorem gt_eq (l : List Int) (i : Nat) (h : i < l.length) : gt l i = l[i] := by simp [gt, h]
theorem drop_cons (l : List Int) (i : Nat) (h : i < l.length) : l.drop i = gt l i :: l.drop (i + 1) := by
  rw [gt_eq l i h]; exact List.drop_eq_getElem_cons h
theorem runn_le (f : Int → Bool) : ∀ l : List Int, runn f l ≤ l.length
  | [] => Nat.le_refl _
  | x :: r => by
    have := runn_le f r
    simp only [runn, List.length_cons]
    split <;> omega
theorem stop_ge (f : Int → Bool) (l : List Int) (i : Nat) : i ≤ stop f l i := Nat.le_add_right _ _
theorem stop_le (f : Int → Bool) (l : List Int) (i : Nat) (h : i ≤ l.length) : stop f l i ≤ l.length := by
  have := runn_le f (l.drop i)
  rw [List.length_drop] at this
  unfold stop; omega
theorem stop_step (f : Int → Bool) (l : List Int) (i : Nat) (h : i < l.length) (hf : f (gt l i) = true) : stop f l i = stop f l (i + 1) := by
  unfold stop
  rw [drop_cons l i h, runn, if_pos hf]; omega
theorem stop_here (f : Int → Bool) (l : List Int) (i : Nat) (h : i < l.length) (hf : f (gt l i) = false) : stop f l i = i := by
  unfold stop
  rw [drop_cons l i h, runn, if_neg (by rw [hf]; exact Bool.false_ne_true)]; rfl
theorem stop_out (f : Int → Bool) (l : List Int) (i : Nat) (h : l.length ≤ i) : stop f l i = i := by
  unfold stop
  rw [List.drop_eq_nil_of_le h]; rfl
/-- All between meet f. -/
theorem stop_all (f : Int → Bool) (l : List Int) : ∀ (m i : Nat), l.length - i = m → ∀ j, i ≤ j → j < stop f l i → f (gt l j) = true := by
  intro m
  induction m with
  | zero =>
    intro i hm j h1 h2
    rw [stop_out f l i (by omega)] at h2
    omega
  | succ m ih =>
    intro i hm j h1 h2
    cases hf : f (gt l i) with
    | false => rw [stop_here f l i (by omega) hf] at h2; omega
    | true =>
      rw [stop_step f l i (by omega) hf] at h2
      by_cases hj : j = i
      · rw [hj]; exact hf
      · exact ih (i + 1) (by omega) j (by omega) h2
/-- Where it stops, f is not met. -/
theorem stop_end (f : Int → Bool) (l : List Int) : ∀ (m i : Nat), l.length - i = m → stop f l i < l.length → f (gt l (stop f l i)) = false := by
  intro m
  induction m with
  | zero =>
    intro i hm h
    rw [stop_out f l i (by omega)] at h
    omega
  | succ m ih =>
    intro i hm h
    cases hf : f (gt l i) with
    | false => rw [stop_here f l i (by omega) hf]; exact hf
    | true =>
      rw [stop_step f l i (by omega) hf] at h ⊢
      exact ih (i + 1) (by omega) h
theorem stop_twice (f : Int → Bool) (l : List Int) (i : Nat) : stop f l (stop f l i) = stop f l i := by
  by_cases h : stop f l i < l.length
  · exact stop_here f l _ h (stop_end f l _ i rfl h)
  · exact stop_out f l _ (by omega)
/-- Where the first byte of a run is at hand. -/
theorem stop_lt (f : Int → Bool) (l : List Int) (i : Nat) (h : i < stop f l i) : i < l.length := by
  by_cases hl : i < l.length
  · exact hl
  · rw [stop_out f l i (by omega)] at h; omega

theorem skp_iff (l : List Int) (c : Int) (i : Nat) : skp l c i = true ↔ (i < l.length ∧ gt l i = c) := by simp [skp]
theorem skp_lt {l : List Int} {c : Int} {i : Nat} (h : skp l c i = true) : i < l.length := ((skp_iff l c i).1 h).1
theorem skp_eq {l : List Int} {c : Int} {i : Nat} (h : skp l c i = true) : gt l i = c := ((skp_iff l c i).1 h).2

/-- Past c, where it stands. -/
def past (l : List Int) (c : Int) (i : Nat) : Nat := if skp l c i = true then i + 1 else i
theorem past_le (l : List Int) (c : Int) (i : Nat) (h : i ≤ l.length) : past l c i ≤ l.length := by
  unfold past
  split
  · rename_i hs; have := skp_lt hs; omega
  · exact h
/-- Where the whole part ends: 0 alone, or a run of digits. -/
def intEnd (l : List Int) (i : Nat) : Nat := if skp l 48 i = true then i + 1 else stop isDg l i
/-- The fraction: none of it where no '.' stands. -/
def fracEnd (l : List Int) (i : Nat) : Option Nat := if skp l 46 i = true then (if stop isDg l (i + 1) = i + 1 then none else some (stop isDg l (i + 1))) else some i
/-- The sign of the exponent. -/
def signEnd (l : List Int) (i : Nat) : Nat := if skp l 43 i = true then i + 1 else past l 45 i
/-- Does an exponent begin? -/
def isExp (l : List Int) (i : Nat) : Bool := skp l 101 i || skp l 69 i
/-- The exponent. -/
def expEnd (l : List Int) (i : Nat) : Option Nat := if isExp l i = true then (if stop isDg l (signEnd l (i + 1)) = signEnd l (i + 1) then none else some (stop isDg l (signEnd l (i + 1)))) else some i
/-- Where the number that begins at s (behind the white space) ends, if it is one. -/
def numAt (l : List Int) (s : Nat) : Option Nat :=
  if intEnd l (past l 45 s) = past l 45 s then none
  else match fracEnd l (intEnd l (past l 45 s)) with
    | none => none
    | some p => expEnd l p
theorem isExp_iff (l : List Int) (i : Nat) : isExp l i = true ↔ (i < l.length ∧ (gt l i = 101 ∨ gt l i = 69)) := by
  simp only [isExp, Bool.or_eq_true, skp_iff]
  constructor
  · rintro (⟨a, b⟩ | ⟨a, b⟩)
    · exact ⟨a, .inl b⟩
    · exact ⟨a, .inr b⟩
  · rintro ⟨a, b | b⟩
    · exact .inl ⟨a, b⟩
    · exact .inr ⟨a, b⟩
theorem intEnd_ge (l : List Int) (i : Nat) : i ≤ intEnd l i := by
  unfold intEnd; split
  · omega
  · exact stop_ge _ _ _
theorem intEnd_le (l : List Int) (i : Nat) (h : i ≤ l.length) : intEnd l i ≤ l.length := by
  unfold intEnd; split
  · rename_i hs; have := skp_lt hs; omega
  · exact stop_le _ _ _ h
theorem intEnd_all (l : List Int) (i j : Nat) (h1 : i ≤ j) (h2 : j < intEnd l i) : isDg (gt l j) = true := by
  unfold intEnd at h2
  split at h2
  · rename_i hs
    obtain rfl : j = i := by omega
    rw [skp_eq hs]; rfl
  · exact stop_all isDg l _ i rfl j h1 h2
theorem fracEnd_some {l : List Int} {i p : Nat} (h : fracEnd l i = some p) (hi : i ≤ l.length) : i ≤ p ∧ p ≤ l.length ∧ (p = i ∨ (i < p ∧ gt l i = 46)) := by
  unfold fracEnd at h
  split at h
  · rename_i hs
    have hl := skp_lt hs
    have h1 := stop_ge isDg l (i + 1)
    have h2 := stop_le isDg l (i + 1) (by omega)
    split at h
    · exact absurd h (by simp)
    · obtain rfl := Option.some.inj h
      exact ⟨by omega, h2, .inr ⟨by omega, skp_eq hs⟩⟩
  · obtain rfl := Option.some.inj h
    exact ⟨Nat.le_refl _, hi, .inl rfl⟩
theorem signEnd_ge (l : List Int) (i : Nat) : i ≤ signEnd l i := by
  unfold signEnd past; split
  · omega
  · split <;> omega
theorem signEnd_le (l : List Int) (i : Nat) (h : i ≤ l.length) : signEnd l i ≤ l.length := by
  unfold signEnd; split
  · rename_i hs; have := skp_lt hs; omega
  · exact past_le l 45 i h
theorem expEnd_some {l : List Int} {i p : Nat} (h : expEnd l i = some p) (hi : i ≤ l.length) : i ≤ p ∧ p ≤ l.length ∧ (p = i ∨ (i < p ∧ (gt l i = 101 ∨ gt l i = 69))) := by
  unfold expEnd at h
  split at h
  · rename_i hs
    obtain ⟨hl, hc⟩ := (isExp_iff l i).1 hs
    have h0 := signEnd_ge l (i + 1)
    have h3 := signEnd_le l (i + 1) (by omega)
    have h1 := stop_ge isDg l (signEnd l (i + 1))
    have h2 := stop_le isDg l (signEnd l (i + 1)) h3
    split at h
    · exact absurd h (by simp)
    · obtain rfl := Option.some.inj h
      exact ⟨by omega, h2, .inr ⟨by omega, hc⟩⟩
  · obtain rfl := Option.some.inj h
    exact ⟨Nat.le_refl _, hi, .inl rfl⟩
/-- What is known of a number: a sign or none, digits (one at least), and then the end, or '.', 'e' or 'E'. -/
theorem numAt_some {l : List Int} {s e : Nat} (h : numAt l s = some e) (hs : s ≤ l.length) :
    ∃ p1 p2, (p1 = s ∧ skp l 45 s = false ∨ p1 = s + 1 ∧ skp l 45 s = true) ∧ p1 < p2 ∧ p2 ≤ e ∧ e ≤ l.length ∧ (∀ j, p1 ≤ j → j < p2 → isDg (gt l j) = true) ∧
      (e = p2 ∨ (p2 < e ∧ (gt l p2 = 46 ∨ gt l p2 = 101 ∨ gt l p2 = 69))) := by
  have hp1 := past_le l 45 s hs
  unfold numAt at h
  split at h
  · exact absurd h (by simp)
  · rename_i hne
    have hge := intEnd_ge l (past l 45 s)
    have hle := intEnd_le l _ hp1
    split at h
    · exact absurd h (by simp)
    · rename_i p hfr
      obtain ⟨f1, f2, f3⟩ := fracEnd_some hfr hle
      obtain ⟨g1, g2, g3⟩ := expEnd_some h f2
      refine ⟨past l 45 s, intEnd l (past l 45 s), ?_, by omega, by omega, g2, fun j a b => intEnd_all l _ j a b, ?_⟩
      · unfold past
        cases hk : skp l 45 s with
        | true => exact .inr ⟨by simp, rfl⟩
        | false => exact .inl ⟨by simp, rfl⟩
      · rcases f3 with rfl | ⟨f3, f4⟩
        · rcases g3 with rfl | ⟨g3, g4⟩
          · exact .inl rfl
          · exact .inr ⟨by omega, .inr g4⟩
        · exact .inr ⟨by omega, .inl f4⟩
end Go.Proofs.Qxb6001606aMods.ScanPlain
