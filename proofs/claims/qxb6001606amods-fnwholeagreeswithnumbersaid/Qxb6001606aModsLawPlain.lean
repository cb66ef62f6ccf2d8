/-
  The plain law: no Go in sight; and the clone by one contract.
-/
import Derived.Test.Qxb6001606aModsClone
namespace Go.Proofs.Qxb6001606aMods.LawPlain
open Go.RowKit ScanPlain ScanWorld ScanDoors ScanWord ScanWhole ScanNumber Clone

/-- '.', 'e' or 'E'. -/
def isFx (y : Int) : Bool := decide (y = 46 ∨ y = 101 ∨ y = 69)
/-- Is there one among the first k bytes from s on? -/
def fxn (l : List Int) (s : Nat) : Nat → Bool
  | 0 => false
  | k + 1 => fxn l s k || isFx (gt l (s + k))
theorem fxn_true {l : List Int} {s : Nat} : ∀ {k : Nat}, fxn l s k = true → ∃ j, j < k ∧ isFx (gt l (s + j)) = true
  | 0, h => absurd h (by simp [fxn])
  | k + 1, h => by
    simp only [fxn, Bool.or_eq_true] at h
    rcases h with h | h
    · obtain ⟨j, h1, h2⟩ := fxn_true h
      exact ⟨j, by omega, h2⟩
    · exact ⟨k, by omega, h⟩
theorem fxn_false {l : List Int} {s : Nat} : ∀ {k : Nat}, fxn l s k = false → ∀ j, j < k → isFx (gt l (s + j)) = false
  | 0, _, j, hj => absurd hj (Nat.not_lt_zero _)
  | k + 1, h, j, hj => by
    simp only [fxn, Bool.or_eq_false_iff] at h
    by_cases e : j = k
    · rw [e]; exact h.2
    · exact fxn_false h.1 j (by omega)
theorem isFx_dg {y : Int} (h : isFx y = true) : isDg y = false := by
  simp only [isFx, decide_eq_true_eq] at h
  simp only [isDg, decide_eq_false_iff_not]
  omega
theorem run_all {l : List Int} {i : Nat} : ∀ (m : Nat), i + m ≤ l.length → (∀ j, i ≤ j → j < i + m → isDg (gt l j) = true) → i + m ≤ stop isDg l i
  | 0, _, _ => stop_ge _ _ _
  | m + 1, hl, h => run_step (run_all m (by omega) (fun j h1 h2 => h j h1 (by omega))) (by omega) (h (i + m) (by omega) (by omega))
/-- A number without '.', 'e', 'E' is all digits behind its sign, and the other way round. -/
theorem fx_dgTo {l : List Int} {s e : Nat} (h : numAt l s = some e) (hs : s ≤ l.length) : dgTo l (past l 45 s) e = !fxn l s (e - s) := by
  obtain ⟨p1, p2, g1, g2, g3, g4, g5, g6⟩ := numAt_some h hs
  have hp1 : past l 45 s = p1 := by
    rcases g1 with ⟨rfl, g⟩ | ⟨rfl, g⟩
    · exact past_no g
    · exact past_yes g
  have hsp : s ≤ p1 := by omega
  rw [hp1]
  cases hf : fxn l s (e - s) with
  | true =>
    obtain ⟨j, hj, hx⟩ := fxn_true hf
    have hjp : p1 ≤ s + j := by
      by_cases hjp : p1 ≤ s + j
      · exact hjp
      · have h0 : j = 0 := by omega
        subst h0
        rcases g1 with ⟨g1, _⟩ | ⟨_, g1⟩
        · omega
        · have := skp_eq g1
          rw [Nat.add_zero, this] at hx
          exact absurd hx (by decide)
    have := run_stop (l := l) (i := p1) (k := s + j - p1) (by rw [show p1 + (s + j - p1) = s + j from by omega]; exact isFx_dg hx)
    simp only [dgTo, Bool.not_true, decide_eq_false_iff_not]
    omega
  | false =>
    have hall := fxn_false hf
    have he : e = p2 := by
      rcases g6 with g6 | ⟨g6, g7⟩
      · exact g6
      · have := hall (p2 - s) (by omega)
        rw [show s + (p2 - s) = p2 from by omega] at this
        simp only [isFx, decide_eq_false_iff_not] at this
        omega
    have hr := run_all (l := l) (i := p1) (p2 - p1) (by omega) (fun j h1 h2 => g5 j h1 (by omega))
    simp only [dgTo, Bool.not_false, decide_eq_true_eq]
    omega

/-- 'zzClone'. -/
theorem clone_any (w : World) (a0 : Option Addr) (len0 cap0 : Nat) (z0 : List Int) (hl : len0 ≤ 1048576)
    (h : (a0 = none ∧ len0 = 0 ∧ cap0 = 0 ∧ z0 = []) ∨
      ∃ x, a0 = some x ∧ len0 ≤ cap0 ∧ cap0 ≤ maxLen ∧ z0.length = cap0 ∧ (∀ i, i < z0.length → w.cell? (x.add i) = some (.int .u8 (z0.getD i 0))) ∧ ∀ n ∈ z0, (Lit.int .u8 n).wf = true) :
    Calls Trym.prog 7 #[.slice a0 len0 cap0] w fun e w' => ∃ bb a c, e = .returned (.slice a len0 c) ∧ Row w' bb a len0 c (z0.take len0) ∧ Below w.heap.size w w' := by
  rcases h with ⟨rfl, rfl, rfl, rfl⟩ | ⟨x, rfl, h1, h2, h3, h4, h5⟩
  · refine (clone_nil w).mono ?_
    rintro e w' ⟨rfl, rfl⟩
    exact ⟨0, none, 0, rfl, ⟨fun h => absurd h (by decide), fun h => absurd h (by decide), fun j h => absurd h (Nat.not_lt_zero _), rfl, by decide, by decide, fun j => by simp [gt]⟩, Below.refl _ _⟩
  · have hg : ∀ j, j < len0 → gt (z0.take len0) j = z0.getD j 0 := by
      intro j hj
      simp [gt, hj]
    refine (clone_some w x len0 cap0 (z0.take len0) (by simp; omega) hl (fun j hj => by rw [hg j hj]; exact h4 j (by omega))).mono ?_
    rintro e w' ⟨rfl, hp⟩
    refine ⟨w.heap.size, some ⟨w.heap.size, 0, none⟩, len0, rfl, ⟨fun _ => rfl, fun _ => by have := hp.size; omega, hp.done, by simp; omega, hl, Nat.le_refl _, fun j => ?_⟩, hp.below⟩
    by_cases hj : j < len0
    · rw [hg j hj]
      have hz : j < z0.length := by omega
      have := h5 (z0[j]) (List.getElem_mem hz)
      have hb := bounds_u8 this
      simpa [List.getD, hz] using hb
    · have : gt (z0.take len0) j = 0 := by
        simp only [gt]
        rw [List.getElem?_eq_none (by simp; omega)]; rfl
      rw [this]; decide
end Go.Proofs.Qxb6001606aMods.LawPlain
