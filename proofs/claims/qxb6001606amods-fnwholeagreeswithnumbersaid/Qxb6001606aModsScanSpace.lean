/-
  THE WALK of 'space'.
-/
import Derived.Test.Qxb6001606aModsScanDigits
import Derived.Handy
namespace Go.Proofs.Qxb6001606aMods.ScanSpace
open Go.RowKit ScanPlain ScanWorld ScanDigits

set_option maxHeartbeats 400000 in
/-- A byte above the blank: nothing is done. -/
theorem space_high {w : World} {B bb : Nat} {a : Option Addr} {n c : Nat} {l : List Int} {p : Nat} (hs : Sc w B bb a n c l p) (hp : p < n) (hx : 32 < gt l p) :
    Calls Trym.prog 18 #[.pointer (some ⟨B, 0, none⟩)] w fun e w' => e = .returned (.tuple #[]) ∧ ∃ m, w' = w.drewN m := by
  obtain ⟨c0, c1, fz, ad, lt, cell, ln, sm, cp, pl, rg⟩ := hs
  obtain rfl := ad (by omega)
  have hpi : (p : Int) < (n : Int) := by omega
  have cb := cell p hp
  obtain ⟨y, hy⟩ : ∃ y, y = gt l p := ⟨_, rfl⟩
  rw [← hy] at cb hx
  clear cell ad ln hy rg
  go_enter Trym.func18, Trym.ntmps18
  go_wp2
  go_quiet (fail)
  go_wp2
  go_returns
  exact ⟨rfl, _, rfl⟩

theorem sp_cases (y : Int) : (isSp y = true ∧ y = 32) ∨ (isSp y = true ∧ y = 9) ∨ (isSp y = true ∧ y = 10) ∨ (isSp y = true ∧ y = 13) ∨ (isSp y = false ∧ (y == 32) = false ∧ (y == 9) = false ∧ (y == 10) = false ∧ (y == 13) = false) := by
  simp [isSp]; omega

set_option maxHeartbeats 2000000 in
/-- The loop. -/
theorem space_low {w : World} {B bb : Nat} {a : Option Addr} {n c : Nat} {l : List Int} {p : Nat} (hs : Sc w B bb a n c l p) (hx : p = n ∨ gt l p ≤ 32) :
    Calls Trym.prog 18 #[.pointer (some ⟨B, 0, none⟩)] w fun e w' => e = .returned (.tuple #[]) ∧ Sc w' B bb a n c l (stop isSp l p) ∧ Only B w w' := by
  have HS : Hid (Sc w B bb a n c l p) := hs
  obtain ⟨c0, c1, fz, ad, lt, cell, ln, sm, cp, pl, rg⟩ := hs
  have HD : Hid (0 < n → a = some ⟨bb, 0, none⟩) := ad
  have HX : Hid (p = n ∨ gt l p ≤ 32) := hx
  clear hx ad
  by_cases hp : p < n
  · have hpi : (p : Int) < (n : Int) := by omega
    have cb := cell p hp
    rw [HD.out (by omega)] at c0
    have hx2 : gt l p ≤ 32 := by have := HX.out; omega
    obtain ⟨y, hy⟩ : ∃ y, y = gt l p := ⟨_, rfl⟩
    rw [← hy] at cb hx2
    have q1 : decide (32 < y) = false := by simp; omega
    clear cell ln hy rg
    go_enter Trym.func18, Trym.ntmps18
    go_wp2
    go_quiet (fail)
    go_wp2
    clear c0 c1 fz cb
    go_loopw [] (fun wr => ∃ k, Sc wr B bb a n c l k ∧ p ≤ k ∧ stop isSp l k = stop isSp l p ∧ Only B w wr) (fun wr => left wr B n)
    case atStart => exact ⟨p, HS.out.drewN nq, Nat.le_refl _, rfl, (Only.refl _ _).drewN nq⟩
    case round =>
      obtain ⟨k, hsc, hpk, hst, hon⟩ := hrel
      have HSC : Hid (Sc wr B bb a n c l k) := hsc
      have HST : Hid (stop isSp l k = stop isSp l p) := hst
      have HON : Hid (Only B w wr) := hon
      obtain ⟨c0, c1, fz, ad, lt, cell, ln, sm, cp, pl, rg⟩ := hsc
      clear hst hon
      by_cases hk : k < n
      · rw [ad (by omega)] at c0
        have cb := cell k hk
        have HB := sp_cases (gt l k)
        obtain ⟨y, hy⟩ : ∃ y, y = gt l k := ⟨_, rfl⟩
        rw [← hy] at cb HB
        have HY : Hid (y = gt l k) := hy
        have hki : (k : Int) < (n : Int) := by omega
        clear cell ad hy ln rg
        rcases HB with ⟨h0, h1⟩ | ⟨h0, h1⟩ | ⟨h0, h1⟩ | ⟨h0, h1⟩ | ⟨h0, h1, h2, h3, h4⟩
        iterate 4
          · subst h1
            clear h0
            go_wp2
            go_quiet (fail)
            go_wp2
            go_quiet (fail)
            go_wp2
            rw [show ((k : Int) + 1) = ((k + 1 : Nat) : Int) from by omega]
            have S1 := fun m => (HSC.out.drewN m).put (k + 1) (by omega)
            go_roundw
            case rel => exact ⟨k + 1, S1 _, by omega, by rw [← HST.out]; exact (stop_step isSp l k (by rw [HSC.out.ln]; omega) (by rw [← HY.out]; rfl)).symm, (HON.out.drewN _).put _⟩
            case measure => rw [left_eq (S1 _), left_eq HSC.out]; omega
        · have H0 : Hid (isSp y = false) := h0
          clear h0
          go_wp2
          go_quiet (fail)
          go_wp2
          go_quiet (fail)
          go_wp2
          go_returns
          have hfin : stop isSp l p = k := by rw [← HST.out]; exact stop_here isSp l k (by rw [HSC.out.ln]; omega) (by rw [← HY.out]; exact H0.out)
          rw [hfin]
          exact ⟨rfl, HSC.out.drewN _, HON.out.drewN _⟩
      · have q2 : decide ((k : Int) < (n : Int)) = false := by simp; omega
        clear cell ad ln rg
        go_wp2
        go_quiet (fail)
        go_wp2
        go_returns
        have hfin : stop isSp l p = k := by rw [← HST.out]; exact stop_out isSp l k (by rw [HSC.out.ln]; omega)
        rw [hfin]
        exact ⟨rfl, HSC.out.drewN nq, HON.out.drewN nq⟩
  · have q1 : decide ((p : Int) < (n : Int)) = false := by simp; omega
    clear cell ln rg
    go_enter Trym.func18, Trym.ntmps18
    go_wp2
    go_quiet (fail)
    go_wp2
    clear c0 c1 fz
    go_loopw [] (fun wr => ∃ k, Sc wr B bb a n c l k ∧ p ≤ k ∧ stop isSp l k = stop isSp l p ∧ Only B w wr) (fun wr => left wr B n)
    case atStart => exact ⟨p, HS.out.drewN nq, Nat.le_refl _, rfl, (Only.refl _ _).drewN nq⟩
    case round =>
      obtain ⟨k, hsc, hpk, hst, hon⟩ := hrel
      have HSC : Hid (Sc wr B bb a n c l k) := hsc
      have HST : Hid (stop isSp l k = stop isSp l p) := hst
      have HON : Hid (Only B w wr) := hon
      obtain ⟨c0, c1, fz, ad, lt, cell, ln, sm, cp, pl, rg⟩ := hsc
      clear hst hon
      by_cases hk : k < n
      · exfalso; omega
      · have q2 : decide ((k : Int) < (n : Int)) = false := by simp; omega
        clear cell ad ln rg
        go_wp2
        go_quiet (fail)
        go_wp2
        go_returns
        have hfin : stop isSp l p = k := by rw [← HST.out]; exact stop_out isSp l k (by rw [HSC.out.ln]; omega)
        rw [hfin]
        exact ⟨rfl, HSC.out.drewN nq, HON.out.drewN nq⟩

/-- 'space'. -/
theorem space_any {w : World} {B bb : Nat} {a : Option Addr} {n c : Nat} {l : List Int} {p : Nat} (hs : Sc w B bb a n c l p) :
    Calls Trym.prog 18 #[.pointer (some ⟨B, 0, none⟩)] w fun e w' => e = .returned (.tuple #[]) ∧ Sc w' B bb a n c l (stop isSp l p) ∧ Only B w w' := by
  by_cases hx : p = n ∨ gt l p ≤ 32
  · exact space_low hs hx
  · have hpl := hs.pl
    have hst : stop isSp l p = p := stop_here isSp l p (by rw [hs.ln]; omega) (by simp [isSp]; omega)
    refine (space_high hs (by omega) (by omega)).mono ?_
    rintro e w' ⟨rfl, m, rfl⟩
    rw [hst]
    exact ⟨rfl, hs.drewN m, (Only.refl _ _).drewN m⟩
end Go.Proofs.Qxb6001606aMods.ScanSpace
