/-
  The plain mathematics of 'FnIsNameAppendOneByte': no Go in sight.
-/
import Derived.WalkKit
namespace Go.Proofs.Qxb6001139aMods.NamePlain

/-- A byte that may stand anywhere in a name. -/
def nm (c : Int) : Bool := decide ((97 ≤ c ∧ c ≤ 122) ∨ (48 ≤ c ∧ c ≤ 57) ∨ c = 95)
/-- A digit. -/
def dg (c : Int) : Bool := decide (48 ≤ c ∧ c ≤ 57)
/-- All bytes may stand in a name. -/
def alln (l : List UInt8) : Bool := l.all fun c => nm (c.toNat : Int)
/-- A name. -/
def isNm (l : List UInt8) : Bool := !l.isEmpty && !dg ((l.headD 0).toNat : Int) && alln l

theorem nm_iff (c : Int) : nm c = true ↔ ((97 ≤ c ∧ c ≤ 122) ∨ (48 ≤ c ∧ c ≤ 57) ∨ c = 95) := by simp [nm]
theorem dg_iff (c : Int) : dg c = true ↔ (48 ≤ c ∧ c ≤ 57) := by simp [dg]

theorem take_snoc (s : ByteArray) (k : Nat) (h : k < s.size) : s.data.toList.take (k + 1) = s.data.toList.take k ++ [s[k]] := by
  rw [List.take_succ_eq_append_getElem (by simpa using h)]; rfl
theorem alln_snoc (l : List UInt8) (c : UInt8) : alln (l ++ [c]) = (alln l && nm (c.toNat : Int)) := by
  simp [alln, List.all_append]
theorem alln_take (s : ByteArray) (k : Nat) (h : k < s.size) : alln (s.data.toList.take (k + 1)) = (alln (s.data.toList.take k) && nm (s[k].toNat : Int)) := by
  rw [take_snoc s k h, alln_snoc]
/-- A byte that may not stand in a name: the whole is no name. -/
theorem alln_bad (s : ByteArray) (k : Nat) (h : k < s.size) (hb : nm (s[k].toNat : Int) = false) : alln s.data.toList = false := by
  rw [← List.take_append_drop (k + 1) s.data.toList]
  have := alln_take s k h
  simp only [alln, List.all_append] at *
  rw [this, hb]; simp
theorem alln_whole (s : ByteArray) (k : Nat) (h : k = s.size) : alln (s.data.toList.take k) = alln s.data.toList := by
  rw [List.take_of_length_le (by subst h; simp)]

/-- The law, one byte alone. -/
theorem law_one (c : UInt8) : isNm [c] = (nm (c.toNat : Int) && !dg (c.toNat : Int)) := by
  simp [isNm, alln, Bool.and_comm]
/-- The law, a byte more. -/
theorem law_more (l : List UInt8) (c : UInt8) (h : l ≠ []) : isNm (l ++ [c]) = (isNm l && nm (c.toNat : Int)) := by
  cases l with
  | nil => exact absurd rfl h
  | cons d l =>
    have := alln_snoc (d :: l) c
    simp only [isNm, List.cons_append, List.isEmpty_cons, List.headD_cons] at *
    rw [this]
    simp [Bool.and_assoc]
end Go.Proofs.Qxb6001139aMods.NamePlain
