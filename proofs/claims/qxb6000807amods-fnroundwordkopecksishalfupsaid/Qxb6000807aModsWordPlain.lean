/-
  The plain mathematics of the 128-bit helpers: no Go in sight.
-/
import Derived.WalkKit
namespace Go.Proofs.Qxb6000807aMods.WordPlain

/-- mul128's middle word, as the machine reckons it. -/
def rawMid (a b : Int) : Int :=
  IntKind.u64.wrap (IntKind.u64.wrap (IntKind.u64.wrap (bits .and .u64 a 4294967295 * bits .and .u64 b 4294967295) / 4294967296 + bits .and .u64 (IntKind.u64.wrap (bits .and .u64 a 4294967295 * (b / 4294967296))) 4294967295) +
    bits .and .u64 (IntKind.u64.wrap (a / 4294967296 * bits .and .u64 b 4294967295)) 4294967295)
/-- mul128's high word. -/
def rawHi (a b : Int) : Int :=
  IntKind.u64.wrap (IntKind.u64.wrap (IntKind.u64.wrap (IntKind.u64.wrap (a / 4294967296 * (b / 4294967296)) + IntKind.u64.wrap (bits .and .u64 a 4294967295 * (b / 4294967296)) / 4294967296) +
    IntKind.u64.wrap (a / 4294967296 * bits .and .u64 b 4294967295) / 4294967296) + rawMid a b / 4294967296)
/-- mul128's low word. -/
def rawLo (a b : Int) : Int :=
  bits .or .u64 (bits .and .u64 (IntKind.u64.wrap (bits .and .u64 a 4294967295 * bits .and .u64 b 4294967295)) 4294967295) (IntKind.u64.wrap (rawMid a b * 4294967296))

theorem and_mask (x : Int) (h1 : 0 ≤ x) (h2 : x < 18446744073709551616) : bits .and .u64 x 4294967295 = x % 4294967296 := by
  rw [u64_and x 4294967295 h1 h2 (by decide) (by decide)]
  obtain ⟨n, rfl⟩ := Int.eq_ofNat_of_zero_le h1
  rw [show (4294967295 : Int).toNat = 4294967295 from rfl, Int.toNat_natCast, nat_mask32]
  omega
theorem or_join (x y : Int) (h1 : 0 ≤ x) (h2 : x < 4294967296) (h3 : 0 ≤ y) (h4 : y < 4294967296) : bits .or .u64 x (y * 4294967296) = x + y * 4294967296 := by
  rw [u64_or x _ h1 (by omega) (by omega) (by omega)]
  obtain ⟨n, rfl⟩ := Int.eq_ofNat_of_zero_le h1
  obtain ⟨m, rfl⟩ := Int.eq_ofNat_of_zero_le h3
  have e : (((m : Int) * 4294967296).toNat) = m * 4294967296 := by omega
  rw [e, Int.toNat_natCast, Nat.or_comm, nat_join 32 (m * 4294967296) n (by omega) (by omega)]
  omega
theorem or_one (x y : Int) (h1 : 0 ≤ x) (h2 : x < 9223372036854775808) (h3 : 0 ≤ y) (h4 : y < 2) : bits .or .u64 (x * 2) y = x * 2 + y := by
  rw [u64_or (x * 2) y (by omega) (by omega) h3 (by omega)]
  obtain ⟨n, rfl⟩ := Int.eq_ofNat_of_zero_le h1
  obtain ⟨m, rfl⟩ := Int.eq_ofNat_of_zero_le h3
  have e : (((n : Int) * 2).toNat) = n * 2 := by omega
  rw [e, Int.toNat_natCast, nat_join 1 (n * 2) m (by omega) (by omega)]
  omega
theorem expand (a1 a0 b1 b0 M : Int) : (a1 * M + a0) * (b1 * M + b0) = a1 * b1 * (M * M) + (a0 * b1 + a1 * b0) * M + a0 * b0 := by
  simp only [Int.mul_add, Int.mul_comm, Int.mul_left_comm, Int.add_assoc, Int.add_comm, Int.add_left_comm]
theorem prod_le (x y : Int) (h1 : 0 ≤ x) (h2 : x ≤ 4294967295) (h3 : 0 ≤ y) (h4 : y ≤ 4294967295) : 0 ≤ x * y ∧ x * y ≤ 18446744065119617025 :=
  ⟨Int.mul_nonneg h1 h3, Int.le_trans (Int.mul_le_mul h2 h4 h3 (by decide)) (by decide)⟩
/-- mul128 multiplies. -/
theorem mul_plain (a b : Int) (h1 : 0 ≤ a) (h2 : a < 18446744073709551616) (h3 : 0 ≤ b) (h4 : b < 18446744073709551616) :
    rawHi a b * 18446744073709551616 + rawLo a b = a * b ∧ 0 ≤ rawLo a b ∧ rawLo a b < 18446744073709551616 ∧ 0 ≤ rawHi a b ∧ rawHi a b < 18446744073709551616 := by
  have q00 := prod_le (a % 4294967296) (b % 4294967296) (by omega) (by omega) (by omega) (by omega)
  have q01 := prod_le (a % 4294967296) (b / 4294967296) (by omega) (by omega) (by omega) (by omega)
  have q10 := prod_le (a / 4294967296) (b % 4294967296) (by omega) (by omega) (by omega) (by omega)
  have q11 := prod_le (a / 4294967296) (b / 4294967296) (by omega) (by omega) (by omega) (by omega)
  have ea : a / 4294967296 * 4294967296 + a % 4294967296 = a := by omega
  have eb : b / 4294967296 * 4294967296 + b % 4294967296 = b := by omega
  have ex := expand (a / 4294967296) (a % 4294967296) (b / 4294967296) (b % 4294967296) 4294967296
  rw [ea, eb] at ex
  rw [ex]
  unfold rawLo rawHi
  have em : rawMid a b = (a % 4294967296 * (b % 4294967296)) / 4294967296 + (a % 4294967296 * (b / 4294967296)) % 4294967296 + (a / 4294967296 * (b % 4294967296)) % 4294967296 := by
    unfold rawMid
    rw [and_mask a h1 h2, and_mask b h3 h4]
    generalize a % 4294967296 * (b % 4294967296) = p00 at *
    generalize a % 4294967296 * (b / 4294967296) = p01 at *
    generalize a / 4294967296 * (b % 4294967296) = p10 at *
    rw [IntWalk.u64_in p00 (by omega), IntWalk.u64_in p01 (by omega), IntWalk.u64_in p10 (by omega), and_mask p01 (by omega) (by omega), and_mask p10 (by omega) (by omega)]
    rw [IntWalk.u64_in (p00 / 4294967296 + p01 % 4294967296) (by omega), IntWalk.u64_in _ (by omega)]
  rw [em, and_mask a h1 h2, and_mask b h3 h4]
  clear em ex ea eb h1 h2 h3 h4
  generalize a % 4294967296 * (b % 4294967296) = p00 at *
  generalize a % 4294967296 * (b / 4294967296) = p01 at *
  generalize a / 4294967296 * (b % 4294967296) = p10 at *
  generalize a / 4294967296 * (b / 4294967296) = p11 at *
  rw [IntWalk.u64_in p00 (by omega), IntWalk.u64_in p01 (by omega), IntWalk.u64_in p10 (by omega), IntWalk.u64_in p11 (by omega), and_mask p00 (by omega) (by omega)]
  generalize hm : p00 / 4294967296 + p01 % 4294967296 + p10 % 4294967296 = mid
  have e1 : IntKind.u64.wrap (mid * 4294967296) = (mid % 4294967296) * 4294967296 := by
    rw [IntKind.wrap_u64]; omega
  rw [e1, or_join _ _ (by omega) (by omega) (by omega) (by omega)]
  rw [IntWalk.u64_in (p11 + p01 / 4294967296) (by omega), IntWalk.u64_in (p11 + p01 / 4294967296 + p10 / 4294967296) (by omega), IntWalk.u64_in (p11 + p01 / 4294967296 + p10 / 4294967296 + mid / 4294967296) (by omega)]
  omega
/-- shl128's high word. -/
def rawSh (h l : Int) : Int := bits .or .u64 (IntKind.u64.wrap (h * 2)) (l / 9223372036854775808)
/-- shl128's low word. -/
def rawSl (l : Int) : Int := IntKind.u64.wrap (l * 2)
theorem shl_plain (h l : Int) (h1 : 0 ≤ h) (h2 : h < 9223372036854775808) (h3 : 0 ≤ l) (h4 : l < 18446744073709551616) :
    rawSh h l * 18446744073709551616 + rawSl l = 2 * (h * 18446744073709551616 + l) ∧ 0 ≤ rawSl l ∧ rawSl l < 18446744073709551616 := by
  unfold rawSh rawSl
  rw [IntWalk.u64_in (h * 2) (by omega), or_one h _ h1 h2 (by omega) (by omega), IntKind.wrap_u64]
  omega
/-- leq128. -/
def leq (ah al bh bl : Int) : Bool := decide (ah < bh ∨ (ah = bh ∧ al ≤ bl))
theorem leq_iff (ah al bh bl : Int) (h1 : 0 ≤ al) (h2 : al < 18446744073709551616) (h3 : 0 ≤ bl) (h4 : bl < 18446744073709551616) :
    leq ah al bh bl = true ↔ ah * 18446744073709551616 + al ≤ bh * 18446744073709551616 + bl := by
  simp only [leq, decide_eq_true_eq]; omega
/-- The rounded quotient. -/
def rnd (n d : Int) : Int := if d ≤ 2 * (n % d) then n / d + 1 else n / d
theorem rnd_bd (n d : Int) (h1 : 0 ≤ n) (h2 : n ≤ 9223372036854775807) (h3 : 1 ≤ d) : 0 ≤ rnd n d ∧ rnd n d ≤ 9223372036854775807 := by
  have hq := Int.ediv_nonneg h1 (by omega : 0 ≤ d)
  have hm := Int.emod_nonneg n (by omega : d ≠ 0)
  have hml := Int.emod_lt_of_pos n (by omega : 0 < d)
  have he := Int.mul_ediv_add_emod n d
  unfold rnd
  split
  · by_cases hd : d = 1
    · subst hd; omega
    · have h2q : 2 * (n / d) ≤ d * (n / d) := Int.mul_le_mul_of_nonneg_right (by omega) hq
      omega
  · have h1q : 1 * (n / d) ≤ d * (n / d) := Int.mul_le_mul_of_nonneg_right (by omega) hq
    omega
/-- Halves go up. -/
theorem rnd_half (n d : Int) (h3 : 1 ≤ d) : 2 * (rnd n d * d) ≤ 2 * n + d ∧ 2 * n + d < 2 * ((rnd n d + 1) * d) := by
  have hm := Int.emod_nonneg n (by omega : d ≠ 0)
  have hml := Int.emod_lt_of_pos n (by omega : 0 < d)
  have he := Int.mul_ediv_add_emod n d
  have ec : d * (n / d) = n / d * d := Int.mul_comm _ _
  rw [ec] at he
  unfold rnd
  split
  · rw [Int.add_mul, Int.add_mul, Int.add_mul]
    generalize n / d * d = x at *
    omega
  · rw [Int.add_mul]
    generalize n / d * d = x at *
    omega
end Go.Proofs.Qxb6000807aMods.WordPlain
