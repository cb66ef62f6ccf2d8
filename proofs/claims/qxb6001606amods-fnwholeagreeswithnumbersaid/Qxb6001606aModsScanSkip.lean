/-
  THE WALK of 'skipByte'.
-/
import Derived.Test.Qxb6001606aModsScanWorld
namespace Go.Proofs.Qxb6001606aMods.ScanSkip
open Go.RowKit ScanPlain ScanWorld

set_option maxHeartbeats 400000 in
theorem skip_out {w : World} {B bb : Nat} {a : Option Addr} {n c : Nat} {l : List Int} {p : Nat} (hs : Sc w B bb a n c l p) (x : Int) (hp : p = n) :
    Calls Trym.prog 19 #[.pointer (some ⟨B, 0, none⟩), .int .u8 x] w fun e w' => e = .returned (.bool false) ∧ ∃ m, w' = w.drewN m := by
  obtain ⟨c0, c1, fz, ad, lt, cell, ln, sm, cp, pl, rg⟩ := hs
  have q1 : ((p : Int) == (n : Int)) = true := by simp; omega
  clear cell ad ln hp rg
  go_enter Trym.func19, Trym.ntmps19
  go_wp2
  go_quiet (fail)
  go_wp2
  go_ret
  exact ⟨rfl, _, rfl⟩

set_option maxHeartbeats 400000 in
theorem skip_other {w : World} {B bb : Nat} {a : Option Addr} {n c : Nat} {l : List Int} {p : Nat} (hs : Sc w B bb a n c l p) (x : Int) (hp : p < n) (hx : gt l p ≠ x) :
    Calls Trym.prog 19 #[.pointer (some ⟨B, 0, none⟩), .int .u8 x] w fun e w' => e = .returned (.bool false) ∧ ∃ m, w' = w.drewN m := by
  obtain ⟨c0, c1, fz, ad, lt, cell, ln, sm, cp, pl, rg⟩ := hs
  obtain rfl := ad (by omega)
  have q1 : ((p : Int) == (n : Int)) = false := by simp; omega
  have cb := cell p hp
  obtain ⟨y, hy⟩ : ∃ y, y = gt l p := ⟨_, rfl⟩
  rw [← hy] at cb hx
  have q2 : (y != x) = true := by simpa using hx
  clear cell ad ln hy hx rg
  go_enter Trym.func19, Trym.ntmps19
  go_wp2
  go_quiet (fail)
  go_wp2
  go_ret
  exact ⟨rfl, _, rfl⟩

set_option maxHeartbeats 400000 in
theorem skip_this {w : World} {B bb : Nat} {a : Option Addr} {n c : Nat} {l : List Int} {p : Nat} (hs : Sc w B bb a n c l p) (x : Int) (hp : p < n) (hx : gt l p = x) :
    Calls Trym.prog 19 #[.pointer (some ⟨B, 0, none⟩), .int .u8 x] w fun e w' => e = .returned (.bool true) ∧ ∃ m, w' = (w.setCell ⟨B, 1, none⟩ (.int .i64 (p + 1 : Nat))).drewN m := by
  obtain ⟨c0, c1, fz, ad, lt, cell, ln, sm, cp, pl, rg⟩ := hs
  obtain rfl := ad (by omega)
  have q1 : ((p : Int) == (n : Int)) = false := by simp; omega
  have cb := cell p hp
  rw [hx] at cb
  have q2 : (x != x) = false := by simp
  clear cell ad ln hx rg
  go_enter Trym.func19, Trym.ntmps19
  go_wp2
  go_quiet (fail)
  go_wp2
  go_ret
  refine ⟨rfl, nq, ?_⟩
  rw [show ((p + 1 : Nat) : Int) = (p : Int) + 1 from by omega]
  rfl

/-- 'skipByte'. -/
theorem skip_any {w : World} {B bb : Nat} {a : Option Addr} {n c : Nat} {l : List Int} {p : Nat} (hs : Sc w B bb a n c l p) (x : Int) :
    Calls Trym.prog 19 #[.pointer (some ⟨B, 0, none⟩), .int .u8 x] w fun e w' => e = .returned (.bool (skp l x p)) ∧ Sc w' B bb a n c l (past l x p) ∧ Only B w w' := by
  by_cases hp : p < n
  · by_cases hx : gt l p = x
    · have hk : skp l x p = true := (skp_iff l x p).2 ⟨by rw [hs.ln]; exact hp, hx⟩
      refine (skip_this hs x hp hx).mono ?_
      rintro e w' ⟨rfl, m, rfl⟩
      rw [hk, past, if_pos hk]
      exact ⟨rfl, (hs.put (p + 1) (by omega)).drewN m, ((Only.refl B w).put _).drewN m⟩
    · have hk : skp l x p = false := by
        rw [← Bool.not_eq_true, skp_iff]; exact fun h => hx h.2
      refine (skip_other hs x hp hx).mono ?_
      rintro e w' ⟨rfl, m, rfl⟩
      rw [hk, past, if_neg (by rw [hk]; exact Bool.false_ne_true)]
      exact ⟨rfl, hs.drewN m, (Only.refl B w).drewN m⟩
  · have hk : skp l x p = false := by
      rw [← Bool.not_eq_true, skp_iff, hs.ln]; exact fun h => hp h.1
    refine (skip_out hs x (by have := hs.pl; omega)).mono ?_
    rintro e w' ⟨rfl, m, rfl⟩
    rw [hk, past, if_neg (by rw [hk]; exact Bool.false_ne_true)]
    exact ⟨rfl, hs.drewN m, (Only.refl B w).drewN m⟩
end Go.Proofs.Qxb6001606aMods.ScanSkip
