/-
  THE WALK of 'word' at the four bytes of null, and of 'null'.
-/
import Derived.Test.Qxb6001606aModsScanSpace
import Derived.Laws.IdiomStrings
namespace Go.Proofs.Qxb6001606aMods.ScanWord
open Go.RowKit ScanPlain ScanWorld ScanSpace

/-- Does 'null' stand at s? -/
def isNul (l : List Int) (s : Nat) : Bool := decide (s + 4 ≤ l.length ∧ gt l s = 110 ∧ gt l (s + 1) = 117 ∧ gt l (s + 2) = 108 ∧ gt l (s + 3) = 108)
theorem byte_of (a : Int) (h : 0 ≤ a ∧ a ≤ 255) : ∃ c : UInt8, a = (c.toNat : Int) := by
  refine ⟨UInt8.ofNat a.toNat, ?_⟩
  rw [UInt8.toNat_ofNat']
  omega
/-- 'string(b[s:s+4])'. -/
theorem conv_four {w : World} {B bb : Nat} {n c : Nat} {l : List Int} {s : Nat} (hs : Sc w B bb (some ⟨bb, 0, none⟩) n c l s) (h4 : s + 4 ≤ n) (cc : Nat) :
    ∃ S : ByteArray, (∀ m, (convert 22 9 (.slice (some ⟨bb, s, none⟩) 4 cc)).run Trym.prog (w.drewN m) = .ok (.string S) (w.drewN m)) ∧ (S.toList == [110, 117, 108, 108]) = isNul l s := by
  obtain ⟨b0, h0⟩ := byte_of _ (hs.rg s)
  obtain ⟨b1, h1⟩ := byte_of _ (hs.rg (s + 1))
  obtain ⟨b2, h2⟩ := byte_of _ (hs.rg (s + 2))
  obtain ⟨b3, h3⟩ := byte_of _ (hs.rg (s + 3))
  have k0 := hs.cell s (by omega)
  have k1 := hs.cell (s + 1) (by omega)
  have k2 := hs.cell (s + 2) (by omega)
  have k3 := hs.cell (s + 3) (by omega)
  rw [h0] at k0
  rw [h1] at k1
  rw [h2] at k2
  rw [h3] at k3
  refine ⟨⟨#[b0, b1, b2, b3]⟩, fun m => ?_, ?_⟩
  · refine run_convert_bytes_back (P := Trym.prog) (w.drewN m) 22 9 5 ⟨bb, s, none⟩ cc [b0, b1, b2, b3] Trym.underlying22 Trym.underlying5 Trym.underlying9 ?_
    intro j hj
    match j, hj with
    | 0, _ => simpa [Addr.add] using k0
    | 1, _ => simpa [Addr.add] using k1
    | 2, _ => simpa [Addr.add] using k2
    | 3, _ => simpa [Addr.add] using k3
  · rw [show (ByteArray.mk #[b0, b1, b2, b3]).toList = [b0, b1, b2, b3] from ByteArray.toList_mk [b0, b1, b2, b3]]
    have e : ∀ (b : UInt8) (k : Nat), k < 256 → ((b.toNat : Int) = (k : Int) ↔ b = UInt8.ofNat k) := by
      intro b k hk
      constructor
      · intro h
        apply UInt8.toNat.inj
        rw [UInt8.toNat_ofNat']
        omega
      · intro h
        rw [h, UInt8.toNat_ofNat']
        omega
    have e0 := e b0 110 (by decide)
    have e1 := e b1 117 (by decide)
    have e2 := e b2 108 (by decide)
    have e3 := e b3 108 (by decide)
    rw [Bool.eq_iff_iff]
    simp only [isNul, beq_iff_eq, List.cons.injEq, decide_eq_true_eq, and_true]
    rw [hs.ln, h0, h1, h2, h3]
    constructor
    · rintro ⟨a0, a1, a2, a3⟩
      exact ⟨h4, e0.2 a0, e1.2 a1, e2.2 a2, e3.2 a3⟩
    · rintro ⟨_, a0, a1, a2, a3⟩
      exact ⟨e0.1 a0, e1.1 a1, e2.1 a2, e3.1 a3⟩

/-- Behind 'null', where it stands. -/
def nulEnd (l : List Int) (s : Nat) : Nat := if isNul l s = true then s + 4 else s
set_option maxHeartbeats 1000000 in
theorem word_at {w : World} {B bb : Nat} {a : Option Addr} {n c : Nat} {l : List Int} {p : Nat} (hs : Sc w B bb a n c l p) (s : Nat) (he : Hid (stop isSp l p = s)) :
    Calls Trym.prog 22 #[.pointer (some ⟨B, 0, none⟩), .string ⟨#[110, 117, 108, 108]⟩] w fun e w' =>
      e = .returned (.bool (isNul l s)) ∧ Sc w' B bb a n c l (nulEnd l s) ∧ Only B w w' := by
  go_enter Trym.func22, Trym.ntmps22
  go_wp2_with fail
  refine (space_any hs).mono ?_
  rintro e w1 ⟨rfl, hs1, hon⟩
  rw [he.out] at hs1
  have HS : Hid (Sc w1 B bb a n c l s) := hs1
  have HON : Hid (Only B w w1) := hon
  clear hon hs
  by_cases h4 : s + 4 ≤ n
  · obtain rfl := hs1.ad (by omega)
    obtain ⟨S, hconv, hS⟩ := conv_four hs1 h4 (c - s)
    obtain ⟨c0, c1, fz, ad, lt, cell, ln, sm, cp, pl, rg⟩ := hs1
    clear cell ad rg ln
    have q1 : decide ((n : Int) - (s : Int) < 4) = false := by simp; omega
    cases hn : isNul l s with
    | true =>
      rw [hn] at hS
      have HN : Hid (nulEnd l s = s + 4) := by unfold nulEnd; rw [hn]; rfl
      have HN0 : Hid (isNul l s = _) := hn
      clear hn
      go_wp2_with fail
      go_quiet (fail)
      go_wp2
      go_ret
      rw [HN0.out, HN.out, show ((s : Int) + 4) = ((s + 4 : Nat) : Int) from by omega]
      exact ⟨rfl, (HS.out.drewN nq).put (s + 4) h4, (HON.out.drewN nq).put _⟩
    | false =>
      rw [hn] at hS
      have HN : Hid (nulEnd l s = s) := by unfold nulEnd; rw [hn]; rfl
      have HN0 : Hid (isNul l s = _) := hn
      clear hn
      go_wp2_with fail
      go_quiet (fail)
      go_wp2
      go_ret
      rw [HN0.out, HN.out]
      exact ⟨rfl, HS.out.drewN nq, HON.out.drewN nq⟩
  · have hn : isNul l s = false := by
      rw [← Bool.not_eq_true]; simp only [isNul, decide_eq_true_eq]; rw [hs1.ln]; omega
    have HN : Hid (nulEnd l s = s) := by unfold nulEnd; rw [hn]; rfl
    have HN0 : Hid (isNul l s = false) := hn
    clear hn
    obtain ⟨c0, c1, fz, ad, lt, cell, ln, sm, cp, pl, rg⟩ := hs1
    clear cell ad rg ln
    have q1 : decide ((n : Int) - (s : Int) < 4) = true := by simp; omega
    go_wp2_with fail
    go_quiet (fail)
    go_wp2
    go_ret
    rw [HN0.out, HN.out]
    exact ⟨rfl, HS.out.drewN nq, HON.out.drewN nq⟩
/-- 'null'. -/
theorem null_any {w : World} {B bb : Nat} {a : Option Addr} {n c : Nat} {l : List Int} {p : Nat} (hs : Sc w B bb a n c l p) :
    Calls Trym.prog 21 #[.pointer (some ⟨B, 0, none⟩)] w fun e w' =>
      e = .returned (.bool (isNul l (stop isSp l p))) ∧ Sc w' B bb a n c l (nulEnd l (stop isSp l p)) ∧ Only B w w' := by
  go_enter Trym.func21, Trym.ntmps21
  go_wp2_with fail
  refine (word_at hs (stop isSp l p) rfl).mono ?_
  rintro e w1 ⟨rfl, hs1, hon⟩
  go_wp2
  go_ret
  exact ⟨rfl, hs1, hon⟩
end Go.Proofs.Qxb6001606aMods.ScanWord
