/-
  THE WALKS of 'isDigits' and 'cutTag'.
-/
import Derived.Test.Qxb6001609aModsRows
import Derived.WalkKit
import Derived.WalkSpells
import Derived.ProofKit
import Derived.BigQuiet
namespace Go.Proofs.Qxb6001609aMods.TagWalk
open Go.RowKit

theorem ret_bool {a b : Bool} (h : a = b) : Ending.returned (.bool a) = .returned (.bool b) := by rw [h]
theorem size_list (s : ByteArray) : s.toList.length = s.size := by rw [ByteArray.toList_eq]; simp

set_option maxHeartbeats 400000 in
/-- 'isDigits' of a string of digits. -/
theorem digits_yes (s : ByteArray) (w : World) (h0 : 0 < s.size) (hd : ∀ i (h : i < s.size), 48 ≤ (s[i].toNat : Int) ∧ (s[i].toNat : Int) ≤ 57) :
    Calls Trym.prog 15 #[.string s] w fun e w' => e = .returned (.bool true) ∧ ∃ pos, w' = w.iter s pos := by
  have hn : s.toList.isEmpty = false := by
    rw [← Bool.not_eq_true, List.isEmpty_iff, ← List.length_eq_zero_iff, size_list]; omega
  have HD : Hid (∀ i (h : i < s.size), 48 ≤ (s[i].toNat : Int) ∧ (s[i].toNat : Int) ≤ 57) := hd
  clear hd
  go_enter Trym.func15, Trym.ntmps15
  go_wp2
  go_loopw [] (fun wr => ∃ pos, pos ≤ s.size ∧ wr = w.iter s pos) (fun wr => s.size - wr.iterPos w.heap.size)
  case atStart => exact ⟨0, Nat.zero_le _, rfl⟩
  case round =>
    obtain ⟨pos, hle, rfl⟩ := hrel
    by_cases hp : pos < s.size
    · obtain ⟨h1, h2⟩ := HD.out pos hp
      have hnx : ∀ ty, (Instr.next (.pointer (some ⟨w.heap.size, 0, none⟩)) true ty).run Trym.prog (w.iter s pos) = _ := fun ty => run_next_ascii w s pos ty hp (by omega)
      have q1 : decide ((57 : Int) < (s[pos].toNat : Int)) = false := by simp; omega
      have q2 : decide ((s[pos].toNat : Int) < 48) = false := by simp; omega
      go_wp2
      go_roundw
      case rel => exact ⟨pos + 1, by omega, rfl⟩
      case measure => simp; omega
    · have hnx : ∀ ty, (Instr.next (.pointer (some ⟨w.heap.size, 0, none⟩)) true ty).run Trym.prog (w.iter s pos) = _ := fun ty => run_next_end w s pos ty hp
      go_wp2
      go_ret
      exact ⟨rfl, pos, rfl⟩

theorem ext_size (L : ByteArray) (hz : 3 < L.size) : (L.extract 1 3).size = 2 := by rw [ByteArray.size_extract]; omega
theorem ext_dig (L : ByteArray) (hz : 3 < L.size) (h1 : 48 ≤ (L[1].toNat : Int) ∧ (L[1].toNat : Int) ≤ 57) (h2 : 48 ≤ (L[2].toNat : Int) ∧ (L[2].toNat : Int) ≤ 57) :
    ∀ i (h : i < (L.extract 1 3).size), 48 ≤ ((L.extract 1 3)[i].toNat : Int) ∧ ((L.extract 1 3)[i].toNat : Int) ≤ 57 := by
  intro i h
  have he := ext_size L hz
  rw [ByteArray.getElem_extract]
  match i, h with
  | 0, _ => exact h1
  | 1, _ => exact h2
  | i + 2, h => omega

set_option maxHeartbeats 800000 in
/-- 'cutTag' of a line with a tag of two digits. -/
theorem cut_two (L : ByteArray) (w : World) (hm : L.size ≤ 2097152) (hz : 3 < L.size) (h0 : (L[0].toNat : Int) = 58) (h1 : 48 ≤ (L[1].toNat : Int) ∧ (L[1].toNat : Int) ≤ 57) (h2 : 48 ≤ (L[2].toNat : Int) ∧ (L[2].toNat : Int) ≤ 57) (h3 : (L[3].toNat : Int) = 58) :
    Calls Trym.prog 14 #[.string L] w fun e w' => e = .returned (.tuple #[.string (L.extract 1 3), .string (L.extract 4 L.size), .bool true]) ∧ ∃ pos m, w' = (w.iter (L.extract 1 3) pos).drewN m := by
  have q0 : ((L[0].toNat : Int) != 58) = false := by simpa using h0
  have q3 : ((L[3].toNat : Int) != 58) = false := by simpa using h3
  have q4 : (L[3].toNat : Int) < 65 := by omega
  have q5 : decide ((65 : Int) ≤ (L[3].toNat : Int)) = false := by simp; omega
  have q6 : decide ((L.size : Int) ≤ 3) = false := by simp; omega
  have HX : Hid (∀ i (h : i < (L.extract 1 3).size), 48 ≤ ((L.extract 1 3)[i].toNat : Int) ∧ ((L.extract 1 3)[i].toNat : Int) ≤ 57) := ext_dig L (by omega) h1 h2
  have HZ : Hid ((L.extract 1 3).size = 2) := ext_size L (by omega)
  clear h0 h1 h2 h3
  go_enter Trym.func14, Trym.ntmps14
  go_wp2_with fail
  refine (digits_yes (L.extract 1 3) _ (by rw [HZ.out]; decide) HX.out).mono ?_
  rintro e w1 ⟨rfl, pos, rfl⟩
  go_wp2
  go_quiet (fail)
  go_wp2
  go_ret3
  exact ⟨rfl, pos, nq, rfl⟩
set_option maxHeartbeats 800000 in
/-- 'cutTag' of a line with a tag of two digits and a capital letter. -/
theorem cut_three (L : ByteArray) (w : World) (hm : L.size ≤ 2097152) (hz : 4 < L.size) (h0 : (L[0].toNat : Int) = 58) (h1 : 48 ≤ (L[1].toNat : Int) ∧ (L[1].toNat : Int) ≤ 57) (h2 : 48 ≤ (L[2].toNat : Int) ∧ (L[2].toNat : Int) ≤ 57) (h3 : 65 ≤ (L[3].toNat : Int) ∧ (L[3].toNat : Int) ≤ 90) (h4 : (L[4].toNat : Int) = 58) :
    Calls Trym.prog 14 #[.string L] w fun e w' => e = .returned (.tuple #[.string (L.extract 1 4), .string (L.extract 5 L.size), .bool true]) ∧ ∃ pos m, w' = (w.iter (L.extract 1 3) pos).drewN m := by
  have q0 : ((L[0].toNat : Int) != 58) = false := by simpa using h0
  obtain ⟨q1, q2⟩ := h3
  have q3 : ((L[4].toNat : Int) != 58) = false := by simpa using h4
  have q6 : decide ((L.size : Int) ≤ 4) = false := by simp; omega
  have HX : Hid (∀ i (h : i < (L.extract 1 3).size), 48 ≤ ((L.extract 1 3)[i].toNat : Int) ∧ ((L.extract 1 3)[i].toNat : Int) ≤ 57) := ext_dig L (by omega) h1 h2
  have HZ : Hid ((L.extract 1 3).size = 2) := ext_size L (by omega)
  clear h0 h1 h2 h4
  go_enter Trym.func14, Trym.ntmps14
  go_wp2_with fail
  refine (digits_yes (L.extract 1 3) _ (by rw [HZ.out]; decide) HX.out).mono ?_
  rintro e w1 ⟨rfl, pos, rfl⟩
  go_wp2
  go_quiet (fail)
  go_wp2
  go_ret3
  exact ⟨rfl, pos, nq, rfl⟩
/-- 'ZZcutTag' hands on what 'cutTag' gives. -/
theorem zz_two (L : ByteArray) (w : World) (hm : L.size ≤ 2097152) (hz : 3 < L.size) (h0 : (L[0].toNat : Int) = 58) (h1 : 48 ≤ (L[1].toNat : Int) ∧ (L[1].toNat : Int) ≤ 57) (h2 : 48 ≤ (L[2].toNat : Int) ∧ (L[2].toNat : Int) ≤ 57) (h3 : (L[3].toNat : Int) = 58) :
    Calls Trym.prog 8 #[.string L] w fun e w' => e = .returned (.tuple #[.string (L.extract 1 3), .string (L.extract 4 L.size), .bool true]) ∧ ∃ pos m, w' = (w.iter (L.extract 1 3) pos).drewN m := by
  go_enter Trym.func8, Trym.ntmps8
  go_wp2_with fail
  refine (cut_two L _ hm hz h0 h1 h2 h3).mono ?_
  rintro e w1 ⟨rfl, pos, m, rfl⟩
  go_wp2
  go_ret3
  exact ⟨rfl, pos, m, rfl⟩
theorem zz_three (L : ByteArray) (w : World) (hm : L.size ≤ 2097152) (hz : 4 < L.size) (h0 : (L[0].toNat : Int) = 58) (h1 : 48 ≤ (L[1].toNat : Int) ∧ (L[1].toNat : Int) ≤ 57) (h2 : 48 ≤ (L[2].toNat : Int) ∧ (L[2].toNat : Int) ≤ 57) (h3 : 65 ≤ (L[3].toNat : Int) ∧ (L[3].toNat : Int) ≤ 90) (h4 : (L[4].toNat : Int) = 58) :
    Calls Trym.prog 8 #[.string L] w fun e w' => e = .returned (.tuple #[.string (L.extract 1 4), .string (L.extract 5 L.size), .bool true]) ∧ ∃ pos m, w' = (w.iter (L.extract 1 3) pos).drewN m := by
  go_enter Trym.func8, Trym.ntmps8
  go_wp2_with fail
  refine (cut_three L _ hm hz h0 h1 h2 h3 h4).mono ?_
  rintro e w1 ⟨rfl, pos, m, rfl⟩
  go_wp2
  go_ret3
  exact ⟨rfl, pos, m, rfl⟩
/-- A digit. -/
def dg (c : Int) : Bool := decide (48 ≤ c ∧ c ≤ 57)
/-- A capital letter. -/
def up (c : Int) : Bool := decide (65 ≤ c ∧ c ≤ 90)
/-- 'isDigitByte'. -/
theorem digit_any (c : Int) (w : World) : Calls Trym.prog 12 #[.int .u8 c] w fun e w' => e = .returned (.bool (dg c)) ∧ w' = w := by
  have h : (dg c = true ∧ 48 ≤ c ∧ c ≤ 57) ∨ (dg c = false ∧ 48 ≤ c ∧ 57 < c) ∨ (dg c = false ∧ c < 48) := by simp [dg]; omega
  rcases h with ⟨h0, h1, h2⟩ | ⟨h0, h1, h2⟩ | ⟨h0, h1⟩
  all_goals
    have H : Hid (_ = _) := h0
    clear h0
    go_enter Trym.func12, Trym.ntmps12
    go_wp2
    go_ret
    exact ⟨ret_bool (by rw [H.out]; first | done | (simp; omega)), rfl⟩
/-- 'isUpperByte'. -/
theorem upper_any (c : Int) (w : World) : Calls Trym.prog 13 #[.int .u8 c] w fun e w' => e = .returned (.bool (up c)) ∧ w' = w := by
  have h : (up c = true ∧ 65 ≤ c ∧ c ≤ 90) ∨ (up c = false ∧ 65 ≤ c ∧ 90 < c) ∨ (up c = false ∧ c < 65) := by simp [up]; omega
  rcases h with ⟨h0, h1, h2⟩ | ⟨h0, h1, h2⟩ | ⟨h0, h1⟩
  all_goals
    have H : Hid (_ = _) := h0
    clear h0
    go_enter Trym.func13, Trym.ntmps13
    go_wp2
    go_ret
    exact ⟨ret_bool (by rw [H.out]; first | done | (simp; omega)), rfl⟩
/-- A tag: two digits, or two digits and a capital letter. -/
def Tag (t : ByteArray) : Prop := ∃ (h : 1 < t.size), dg (t[0].toNat : Int) = true ∧ dg (t[1].toNat : Int) = true ∧ (t.size = 2 ∨ ∃ h2 : 2 < t.size, t.size = 3 ∧ up (t[2].toNat : Int) = true)

set_option maxHeartbeats 1600000 in
/-- 'isTagShape'. -/
theorem shape_any (t : ByteArray) (hm : t.size ≤ 1048576) : ∃ b : Bool, (∀ w, Calls Trym.prog 7 #[.string t] w fun e w' => e = .returned (.bool b) ∧ w' = w) ∧ (b = true → Tag t) := by
  by_cases h2 : t.size = 2
  · have hz : 1 < t.size := by omega
    have q1 : ((t.size : Int) != 2) = false := by simp; omega
    have q2 : ((t.size : Int) == 3) = false := by simp; omega
    have H2 : Hid (t.size = 2) := h2
    clear h2
    cases h0 : dg (t[0].toNat : Int) with
    | false =>
      refine ⟨false, fun w => ?_, fun h => absurd h (by decide)⟩
      go_enter Trym.func7, Trym.ntmps7
      go_wp2_with (go_at_call 12; refine (digit_any _ _).mono ?_; rintro e w' ⟨rfl, rfl⟩)
      go_ret
      exact ⟨rfl, rfl⟩
    | true =>
      cases h1 : dg (t[1].toNat : Int) with
      | false =>
        refine ⟨false, fun w => ?_, fun h => absurd h (by decide)⟩
        go_enter Trym.func7, Trym.ntmps7
        go_wp2_with (go_at_call 12; refine (digit_any _ _).mono ?_; rintro e w' ⟨rfl, rfl⟩)
        go_ret
        exact ⟨rfl, rfl⟩
      | true =>
        refine ⟨true, fun w => ?_, fun _ => ⟨hz, h0, h1, .inl H2.out⟩⟩
        go_enter Trym.func7, Trym.ntmps7
        go_wp2_with (go_at_call 12; refine (digit_any _ _).mono ?_; rintro e w' ⟨rfl, rfl⟩)
        go_ret
        exact ⟨rfl, rfl⟩
  · by_cases h3 : t.size = 3
    · have hz : 2 < t.size := by omega
      have q1 : ((t.size : Int) != 2) = true := by simp; omega
      have q2 : ((t.size : Int) == 3) = true := by simp; omega
      have q3 : ((t.size : Int) != 3) = false := by simp; omega
      have H3 : Hid (t.size = 3) := h3
      clear h2 h3
      cases h0 : dg (t[0].toNat : Int) with
      | false =>
        refine ⟨false, fun w => ?_, fun h => absurd h (by decide)⟩
        go_enter Trym.func7, Trym.ntmps7
        go_wp2_with (go_at_call 12; refine (digit_any _ _).mono ?_; rintro e w' ⟨rfl, rfl⟩)
        go_ret
        exact ⟨rfl, rfl⟩
      | true =>
        cases h1 : dg (t[1].toNat : Int) with
        | false =>
          refine ⟨false, fun w => ?_, fun h => absurd h (by decide)⟩
          go_enter Trym.func7, Trym.ntmps7
          go_wp2_with (go_at_call 12; refine (digit_any _ _).mono ?_; rintro e w' ⟨rfl, rfl⟩)
          go_ret
          exact ⟨rfl, rfl⟩
        | true =>
          cases h5 : up (t[2].toNat : Int) with
          | false =>
            refine ⟨false, fun w => ?_, fun h => absurd h (by decide)⟩
            go_enter Trym.func7, Trym.ntmps7
            go_wp2_with (first | (go_at_call 12; refine (digit_any _ _).mono ?_; rintro e w' ⟨rfl, rfl⟩) | (go_at_call 13; refine (upper_any _ _).mono ?_; rintro e w' ⟨rfl, rfl⟩))
            go_ret
            exact ⟨rfl, rfl⟩
          | true =>
            refine ⟨true, fun w => ?_, fun _ => ⟨by omega, h0, h1, .inr ⟨hz, H3.out, h5⟩⟩⟩
            go_enter Trym.func7, Trym.ntmps7
            go_wp2_with (first | (go_at_call 12; refine (digit_any _ _).mono ?_; rintro e w' ⟨rfl, rfl⟩) | (go_at_call 13; refine (upper_any _ _).mono ?_; rintro e w' ⟨rfl, rfl⟩))
            go_ret
            exact ⟨rfl, rfl⟩
    · have q1 : ((t.size : Int) != 2) = true := by simp; omega
      have q3 : ((t.size : Int) != 3) = true := by simp; omega
      clear h2 h3
      refine ⟨false, fun w => ?_, fun h => absurd h (by decide)⟩
      go_enter Trym.func7, Trym.ntmps7
      go_wp2
      go_ret
      exact ⟨rfl, rfl⟩
end Go.Proofs.Qxb6001609aMods.TagWalk
