/-
  THE WALK of 'digits'.
-/
import Derived.Test.Qxb6001606aModsScanWorld
namespace Go.Proofs.Qxb6001606aMods.ScanDigits
open Go.RowKit ScanPlain ScanWorld

/-- How many bytes are left: the loops' measure. -/
def left (w : World) (B n : Nat) : Nat := n - (intOf ((w.cell? ⟨B, 1, none⟩).getD undef)).toNat
theorem left_eq {w : World} {B bb : Nat} {a : Option Addr} {n c : Nat} {l : List Int} {p : Nat} (h : Sc w B bb a n c l p) : left w B n = n - p := by
  unfold left; rw [h.c1]; simp [intOf]
theorem dg_cases (x : Int) : (isDg x = true ∧ 48 ≤ x ∧ x ≤ 57) ∨ (isDg x = false ∧ x < 48) ∨ (isDg x = false ∧ 48 ≤ x ∧ 57 < x) := by
  simp [isDg]; omega

set_option maxHeartbeats 1000000 in
/-- 'digits'. -/
theorem digits_any {w : World} {B bb : Nat} {a : Option Addr} {n c : Nat} {l : List Int} {p : Nat} (hs : Sc w B bb a n c l p) :
    Calls Trym.prog 20 #[.pointer (some ⟨B, 0, none⟩)] w fun e w' => e = .returned (.int .i64 ((stop isDg l p : Int) - (p : Int))) ∧ Sc w' B bb a n c l (stop isDg l p) ∧ Only B w w' := by
  have c1 := hs.c1
  have HS : Hid (Sc w B bb a n c l p) := hs
  clear hs
  go_enter Trym.func20, Trym.ntmps20
  go_wp2
  clear c1
  go_loopw [] (fun wr => ∃ k, Sc wr B bb a n c l k ∧ p ≤ k ∧ stop isDg l k = stop isDg l p ∧ Only B w wr) (fun wr => left wr B n)
  case atStart => exact ⟨p, HS.out, Nat.le_refl _, rfl, Only.refl _ _⟩
  case round =>
    obtain ⟨k, hsc, hpk, hst, hon⟩ := hrel
    have HSC : Hid (Sc wr B bb a n c l k) := hsc
    have HST : Hid (stop isDg l k = stop isDg l p) := hst
    have HON : Hid (Only B w wr) := hon
    obtain ⟨c0, c1, fz, ad, lt, cell, ln, sm, cp, pl, rg⟩ := hsc
    clear hst hon
    by_cases hk : k < n
    · obtain rfl := ad (by omega)
      have cb := cell k hk
      have HB := dg_cases (gt l k)
      obtain ⟨y, hy⟩ : ∃ y, y = gt l k := ⟨_, rfl⟩
      rw [← hy] at cb HB
      have HY : Hid (y = gt l k) := hy
      have hki : (k : Int) < (n : Int) := by omega
      clear cell ad hy rg
      rcases HB with ⟨h0, h1, h2⟩ | ⟨h0, h1⟩ | ⟨h0, h1, h2⟩
      · have H0 : Hid (isDg y = true) := h0
        clear h0 ln
        go_wp2
        go_quiet (fail)
        go_wp2
        rw [show ((k : Int) + 1) = ((k + 1 : Nat) : Int) from by omega]
        have S1 := (HSC.out.drewN nq).put (k + 1) (by omega)
        go_roundw
        case rel => exact ⟨k + 1, S1, by omega, by rw [← HST.out]; exact (stop_step isDg l k (by rw [HSC.out.ln]; omega) (by rw [← HY.out]; exact H0.out)).symm, (HON.out.drewN nq).put _⟩
        case measure => rw [left_eq S1, left_eq HSC.out]; omega
      · have q1 : decide (48 ≤ y) = false := by simp; omega
        have H0 : Hid (isDg y = false) := h0
        clear h0 ln
        go_wp2
        go_quiet (fail)
        go_wp2
        go_ret
        have hfin : stop isDg l p = k := by rw [← HST.out]; exact stop_here isDg l k (by rw [HSC.out.ln]; omega) (by rw [← HY.out]; exact H0.out)
        rw [hfin]
        exact ⟨rfl, HSC.out.drewN nq, HON.out.drewN nq⟩
      · have q1 : decide (y ≤ 57) = false := by simp; omega
        have H0 : Hid (isDg y = false) := h0
        clear h0 ln
        go_wp2
        go_quiet (fail)
        go_wp2
        go_ret
        have hfin : stop isDg l p = k := by rw [← HST.out]; exact stop_here isDg l k (by rw [HSC.out.ln]; omega) (by rw [← HY.out]; exact H0.out)
        rw [hfin]
        exact ⟨rfl, HSC.out.drewN nq, HON.out.drewN nq⟩
    · have q1 : decide ((k : Int) < (n : Int)) = false := by simp; omega
      clear cell ad ln rg
      go_wp2
      go_quiet (fail)
      go_wp2
      go_ret
      have hfin : stop isDg l p = k := by rw [← HST.out]; exact stop_out isDg l k (by rw [HSC.out.ln]; omega)
      rw [hfin]
      exact ⟨rfl, HSC.out.drewN nq, HON.out.drewN nq⟩
end Go.Proofs.Qxb6001606aMods.ScanDigits
