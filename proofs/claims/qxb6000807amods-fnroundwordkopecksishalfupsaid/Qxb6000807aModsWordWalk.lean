/-
  THE WALKS of the 128-bit helpers and of the rounding.
-/
import Derived.Test.Qxb6000807aModsRows
import Derived.Test.Qxb6000807aModsWordPlain
import Derived.WalkKit
import Derived.WalkSpells
import Derived.ProofKit
import Derived.BigQuiet
namespace Go.Proofs.Qxb6000807aMods.WordWalk
open Go.RowKit WordPlain

theorem ret_int {k : IntKind} {a b : Int} (h : a = b) : Ending.returned (.int k a) = .returned (.int k b) := by rw [h]
theorem ret_bool {a b : Bool} (h : a = b) : Ending.returned (.bool a) = .returned (.bool b) := by rw [h]

set_option maxHeartbeats 400000 in
/-- 'mul128'. -/
theorem mul_any (a b H L : Int) (hH : Hid (rawHi a b = H)) (hL : Hid (rawLo a b = L)) (w : World) :
    Calls Trym.prog 11 #[.int .u64 a, .int .u64 b] w fun e w' => e = .returned (.tuple #[.int .u64 H, .int .u64 L]) ∧ w' = w := by
  go_enter Trym.func11, Trym.ntmps11
  go_wp2
  go_ret2
  rw [← hH.out, ← hL.out]
  exact ⟨rfl, rfl⟩
set_option maxHeartbeats 400000 in
/-- 'shl128'. -/
theorem shl_any (h l H L : Int) (hH : Hid (rawSh h l = H)) (hL : Hid (rawSl l = L)) (w : World) :
    Calls Trym.prog 12 #[.int .u64 h, .int .u64 l] w fun e w' => e = .returned (.tuple #[.int .u64 H, .int .u64 L]) ∧ w' = w := by
  go_enter Trym.func12, Trym.ntmps12
  go_wp2
  go_ret2
  rw [← hH.out, ← hL.out]
  exact ⟨rfl, rfl⟩
set_option maxHeartbeats 400000 in
/-- 'leq128'. -/
theorem leq_any (ah al bh bl : Int) (w : World) :
    Calls Trym.prog 13 #[.int .u64 ah, .int .u64 al, .int .u64 bh, .int .u64 bl] w fun e w' => e = .returned (.bool (leq ah al bh bl)) ∧ w' = w := by
  by_cases h : ah = bh
  · subst h
    have q1 : (ah != ah) = false := by simp
    have H : Hid (leq ah al ah bl = decide (al ≤ bl)) := by
      show leq ah al ah bl = decide (al ≤ bl)
      rw [Bool.eq_iff_iff]; simp [leq]
    go_enter Trym.func13, Trym.ntmps13
    go_wp2
    go_ret
    exact ⟨ret_bool H.out.symm, rfl⟩
  · have q1 : (ah != bh) = true := by simpa using h
    have H : Hid (leq ah al bh bl = decide (ah < bh)) := by
      show leq ah al bh bl = decide (ah < bh)
      rw [Bool.eq_iff_iff]; simp [leq, h]
    clear h
    go_enter Trym.func13, Trym.ntmps13
    go_wp2
    go_ret
    exact ⟨ret_bool H.out.symm, rfl⟩
set_option maxHeartbeats 400000 in
/-- 'add128' of two single words. -/
theorem add_any (b d H L : Int) (hb : 0 ≤ b) (hb2 : b < 18446744073709551616) (hd : 0 ≤ d) (hd2 : d < 18446744073709551616) (he : Hid (H * 18446744073709551616 + L = b + d)) (h1 : Hid (0 ≤ L)) (h2 : Hid (L < 18446744073709551616)) (w : World) :
    Calls Trym.prog 10 #[.int .u64 0, .int .u64 b, .int .u64 0, .int .u64 d] w fun e w' => e = .returned (.tuple #[.int .u64 H, .int .u64 L]) ∧ w' = w := by
  have HL : Hid (IntKind.u64.wrap (b + d) = L) := by
    show IntKind.u64.wrap (b + d) = L
    rw [IntKind.wrap_u64]; have := he.out; have := h1.out; have := h2.out; omega
  by_cases hc : IntKind.u64.wrap (b + d) < b
  · have HH : Hid (H = 1) := by
      show H = 1
      rw [HL.out] at hc
      have := he.out; have := h1.out; have := h2.out; omega
    go_enter Trym.func10, Trym.ntmps10
    go_wp2
    go_ret2
    rw [HH.out, ← HL.out]
    exact ⟨rfl, rfl⟩
  · have HH : Hid (H = 0) := by
      show H = 0
      rw [HL.out] at hc
      have := he.out; have := h1.out; have := h2.out; omega
    go_enter Trym.func10, Trym.ntmps10
    go_wp2
    go_ret2
    rw [HH.out, ← HL.out]
    exact ⟨rfl, rfl⟩
set_option maxHeartbeats 400000 in
/-- 'roundWordKopecks'. -/
theorem round_any (a b r : Int) (w : World) (ha : 0 ≤ a) (ha2 : a ≤ 9223372036854775807) (hb : 1 ≤ b) (hb2 : b ≤ 9223372036854775808) (hr : Hid (rnd a b = r)) :
    Calls Trym.prog 20 #[.int .u64 a, .int .u64 b] w fun e w' => e = .returned (.int .i64 r) ∧ ∃ m, w' = w.drewN m := by
  have hb0 : (b == 0) = false := by simp; omega
  have hm := Int.emod_nonneg a (by omega : b ≠ 0)
  have hml := Int.emod_lt_of_pos a (by omega : 0 < b)
  have ew : IntKind.u64.wrap (2 * (a % b)) = 2 * (a % b) := IntWalk.u64_in _ (by omega)
  obtain ⟨r1, r2⟩ := rnd_bd a b ha ha2 hb
  have HR1 : Hid (0 ≤ rnd a b) := r1
  have HR2 : Hid (rnd a b ≤ 9223372036854775807) := r2
  clear r1 r2
  by_cases hc : b ≤ 2 * (a % b)
  · have HE : Hid (rnd a b = a / b + 1) := by
      show rnd a b = a / b + 1
      unfold rnd; rw [if_pos hc]
    have hq := Int.ediv_nonneg ha (by omega : 0 ≤ b)
    have HQ : Hid (0 ≤ a / b) := hq
    clear hq hm hml
    go_enter Trym.func20, Trym.ntmps20
    go_wp2
    go_quiet (fail)
    go_wp2
    go_ret
    refine ⟨ret_int ?_, _, rfl⟩
    rw [← hr.out, HE.out]
    have h1 := HR1.out
    have h2 := HR2.out
    rw [HE.out] at h1 h2
    rw [IntWalk.u64_in _ (by omega), IntWalk.wrap64_in _ (by omega)]
  · have HE : Hid (rnd a b = a / b) := by
      show rnd a b = a / b
      unfold rnd; rw [if_neg hc]
    clear hm hml
    go_enter Trym.func20, Trym.ntmps20
    go_wp2
    go_quiet (fail)
    go_wp2
    go_ret
    refine ⟨ret_int ?_, _, rfl⟩
    rw [← hr.out, HE.out]
    have h1 := HR1.out
    have h2 := HR2.out
    rw [HE.out] at h1 h2
    rw [IntWalk.wrap64_in _ (by omega)]
/-- 'ZZroundWordKopecks'. -/
theorem zzround_any (a b r : Int) (w : World) (ha : 0 ≤ a) (ha2 : a ≤ 9223372036854775807) (hb : 1 ≤ b) (hb2 : b ≤ 9223372036854775808) (hr : Hid (rnd a b = r)) :
    Calls Trym.prog 9 #[.int .u64 a, .int .u64 b] w fun e w' => e = .returned (.int .i64 r) ∧ ∃ m, w' = w.drewN m := by
  go_enter Trym.func9, Trym.ntmps9
  go_wp2_with (go_at_call 20; refine (round_any a b r _ ha ha2 hb hb2 hr).mono ?_; rintro e w' ⟨rfl, m, rfl⟩)
  go_ret
  exact ⟨rfl, _, rfl⟩
/-- 'inRoundDomain'. -/
def dom (a b : Int) : Bool := decide (a ≤ 9223372036854775807 ∧ b ≠ 0 ∧ b ≤ 9223372036854775808)
theorem dom_any (a b : Int) (w : World) : Calls Trym.prog 8 #[.int .u64 a, .int .u64 b] w fun e w' => e = .returned (.bool (dom a b)) ∧ w' = w := by
  by_cases h1 : a ≤ 9223372036854775807
  · by_cases h2 : b = 0
    · have H : Hid (dom a b = false) := by
        show dom a b = false
        simp [dom, h2]
      have q1 : (b != 0) = false := by simpa using h2
      clear h2
      go_enter Trym.func8, Trym.ntmps8
      go_wp2
      go_ret
      exact ⟨ret_bool H.out.symm, rfl⟩
    · have q1 : (b != 0) = true := by simpa using h2
      have H : Hid (dom a b = decide (b ≤ 9223372036854775808)) := by
        show dom a b = decide (b ≤ 9223372036854775808)
        rw [Bool.eq_iff_iff]; simp [dom, h1, h2]
      clear h2
      go_enter Trym.func8, Trym.ntmps8
      go_wp2
      go_ret
      exact ⟨ret_bool H.out.symm, rfl⟩
  · have H : Hid (dom a b = false) := by
      show dom a b = false
      simp only [dom, decide_eq_false_iff_not]; omega
    have q1 : decide (a ≤ 9223372036854775807) = false := by simp; omega
    go_enter Trym.func8, Trym.ntmps8
    go_wp2
    go_ret
    exact ⟨ret_bool H.out.symm, rfl⟩
end Go.Proofs.Qxb6000807aMods.WordWalk
