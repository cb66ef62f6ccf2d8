/-
  THE WALK of 'isName' and of the small functions.
-/
import Derived.Test.Qxb6001139aModsRows
import Derived.Test.Qxb6001139aModsPlain
import Derived.WalkKit
import Derived.WalkSpells
import Derived.ProofKit
namespace Go.Proofs.Qxb6001139aMods.NameWalk
open Go.RowKit NamePlain

theorem ret_bool {a b : Bool} (h : a = b) : Ending.returned (.bool a) = .returned (.bool b) := by rw [h]
theorem size_list (s : ByteArray) : s.toList.length = s.size := by rw [ByteArray.toList_eq]; simp
theorem head_list (s : ByteArray) (h : 0 < s.size) : s.data.toList.headD 0 = s[0] := by
  have : 0 < s.data.toList.length := by simpa using h
  rw [List.headD_eq_head?_getD, List.head?_eq_getElem?, List.getElem?_eq_getElem this]
  rfl
theorem isNm_nil (s : ByteArray) (h : s.size = 0) : isNm s.data.toList = false := by
  have : s.data.toList = [] := List.eq_nil_of_length_eq_zero (by simpa using h)
  rw [this]; rfl
theorem isNm_digit (s : ByteArray) (h : 0 < s.size) (hd : dg (s[0].toNat : Int) = true) : isNm s.data.toList = false := by
  simp only [isNm, head_list s h, hd]; simp
theorem isNm_other (s : ByteArray) (h : 0 < s.size) (hd : dg (s[0].toNat : Int) = false) : isNm s.data.toList = alln s.data.toList := by
  have hne : s.data.toList.isEmpty = false := by
    cases e : s.data.toList with
    | nil => have : s.data.toList.length = 0 := by rw [e]; rfl
             have h2 : s.data.toList.length = s.size := by simp
             omega
    | cons => rfl
  simp only [isNm, head_list s h, hd, hne]; simp

set_option maxHeartbeats 400000 in
/-- What the loop of 'isName' does, from wherever the head has let it. -/
theorem isName_first (s : ByteArray) (w : World) (hz : s.size = 0) :
    Calls Trym.prog 12 #[.string s] w fun e w' => e = .returned (.bool (isNm s.data.toList)) ∧ w' = w := by
  have hn : s.toList.isEmpty = true := by rw [List.isEmpty_iff, ← List.length_eq_zero_iff, size_list]; exact hz
  have hR : Hid (isNm s.data.toList = false) := isNm_nil s hz
  clear hz
  go_enter Trym.func12, Trym.ntmps12
  go_wp2
  go_ret
  exact ⟨ret_bool hR.out.symm, rfl⟩

set_option maxHeartbeats 400000 in
theorem isName_digit (s : ByteArray) (w : World) (h0 : 0 < s.size) (hd : dg (s[0].toNat : Int) = true) :
    Calls Trym.prog 12 #[.string s] w fun e w' => e = .returned (.bool (isNm s.data.toList)) ∧ w' = w := by
  have hn : s.toList.isEmpty = false := by
    rw [← Bool.not_eq_true, List.isEmpty_iff, ← List.length_eq_zero_iff, size_list]; omega
  have hR : Hid (isNm s.data.toList = false) := isNm_digit s h0 hd
  rw [dg_iff] at hd
  obtain ⟨hd1, hd2⟩ := hd
  go_enter Trym.func12, Trym.ntmps12
  go_wp2
  go_ret
  exact ⟨ret_bool hR.out.symm, rfl⟩

theorem byte_cases (c : Int) : (nm c = true ∧ (97 ≤ c ∧ c ≤ 122)) ∨ (nm c = true ∧ c < 97 ∧ 48 ≤ c ∧ c ≤ 57) ∨ (nm c = true ∧ c < 97 ∧ 57 < c ∧ c = 95) ∨
    (nm c = false ∧ 122 < c) ∨ (nm c = false ∧ c < 97 ∧ 57 < c ∧ c ≠ 95) ∨ (nm c = false ∧ c < 48) := by
  by_cases h : nm c = true
  · have := (nm_iff c).1 h
    rcases this with a | a | a
    · exact .inl ⟨h, a⟩
    · exact .inr (.inl ⟨h, by omega, a⟩)
    · exact .inr (.inr (.inl ⟨h, by omega, by omega, a⟩))
  · have h' : nm c = false := by simpa using h
    have := mt (nm_iff c).2 h
    by_cases h1 : 122 < c
    · exact .inr (.inr (.inr (.inl ⟨h', h1⟩)))
    · by_cases h2 : c < 48
      · exact .inr (.inr (.inr (.inr (.inr ⟨h', h2⟩))))
      · exact .inr (.inr (.inr (.inr (.inl ⟨h', by omega, by omega, by omega⟩))))

set_option maxHeartbeats 2000000 in
theorem isName_loop (s : ByteArray) (w : World) (hs : s.size ≤ maxLen) (h0 : 0 < s.size) (hd : dg (s[0].toNat : Int) = false) :
    Calls Trym.prog 12 #[.string s] w fun e w' => e = .returned (.bool (isNm s.data.toList)) ∧ w' = w := by
  have hn : s.toList.isEmpty = false := by
    rw [← Bool.not_eq_true, List.isEmpty_iff, ← List.length_eq_zero_iff, size_list]; omega
  have hR : Hid (isNm s.data.toList = alln s.data.toList) := isNm_other s h0 hd
  have hd' : ¬ ((48 : Int) ≤ (s[0].toNat : Int) ∧ (s[0].toNat : Int) ≤ 57) := by rw [← dg_iff, hd]; simp
  clear hd
  unfold maxLen at hs
  have hc : (s[0].toNat : Int) < 48 ∨ (48 : Int) ≤ (s[0].toNat : Int) ∧ (57 : Int) < (s[0].toNat : Int) := by omega
  clear hd'
  rcases hc with hc | ⟨hc, hc2⟩
  all_goals
    go_enter Trym.func12, Trym.ntmps12
    go_wp2
    go_loop [3] (fun i => ∃ k : Nat, k ≤ s.size ∧ i = .int .i64 k ∧ alln (s.data.toList.take k) = true) (fun i => s.size - (intOf i).toNat)
    case atStart => exact ⟨0, Nat.zero_le _, rfl, rfl⟩
    case round =>
      obtain ⟨k, hk, rfl, hall0⟩ := hrel
      have hall : Hid (alln (s.data.toList.take k) = true) := hall0
      clear hall0
      by_cases hlt : k < s.size
      · have hbc := byte_cases (s[k].toNat : Int)
        rcases hbc with ⟨hnm0, q1, q2⟩ | ⟨hnm0, q1, q2, q3⟩ | ⟨hnm0, q1, q2, q3⟩ | ⟨hnm0, q1⟩ | ⟨hnm0, q1, q2, q3⟩ | ⟨hnm0, q1⟩
        · have hnm : Hid (nm (s[k].toNat : Int) = true) := hnm0
          clear hnm0
          go_wp2
          go_round
          case rel => exact ⟨k + 1, by omega, by go_num, by rw [alln_take s k hlt, hall.out, hnm.out]; rfl⟩
          case measure => simp [intOf]; omega
        · have hnm : Hid (nm (s[k].toNat : Int) = true) := hnm0
          clear hnm0
          go_wp2
          go_round
          case rel => exact ⟨k + 1, by omega, by go_num, by rw [alln_take s k hlt, hall.out, hnm.out]; rfl⟩
          case measure => simp [intOf]; omega
        · have hnm : Hid (nm (s[k].toNat : Int) = true) := hnm0
          have q4 : ((s[k].toNat : Int) == 95) = true := by simpa using q3
          clear hnm0 q3
          go_wp2
          go_round
          case rel => exact ⟨k + 1, by omega, by go_num, by rw [alln_take s k hlt, hall.out, hnm.out]; rfl⟩
          case measure => simp [intOf]; omega
        · have hnm : Hid (nm (s[k].toNat : Int) = false) := hnm0
          have q4 : ((s[k].toNat : Int) == 95) = false := by simp; omega
          have q5 : decide ((s[k].toNat : Int) ≤ 122) = false := by simp; omega
          have q6 : decide ((s[k].toNat : Int) ≤ 57) = false := by simp; omega
          clear hnm0
          go_wp2
          go_ret
          exact ⟨ret_bool (by rw [hR.out, alln_bad s k hlt hnm.out]), rfl⟩
        · have hnm : Hid (nm (s[k].toNat : Int) = false) := hnm0
          have q4 : ((s[k].toNat : Int) == 95) = false := by simpa using q3
          have q6 : decide ((s[k].toNat : Int) ≤ 57) = false := by simp; omega
          clear hnm0 q3
          go_wp2
          go_ret
          exact ⟨ret_bool (by rw [hR.out, alln_bad s k hlt hnm.out]), rfl⟩
        · have hnm : Hid (nm (s[k].toNat : Int) = false) := hnm0
          have q4 : ((s[k].toNat : Int) == 95) = false := by simp; omega
          clear hnm0
          go_wp2
          go_ret
          exact ⟨ret_bool (by rw [hR.out, alln_bad s k hlt hnm.out]), rfl⟩
      · go_wp2
        go_ret
        exact ⟨ret_bool (by rw [hR.out, ← alln_whole s k (by omega), hall.out]), rfl⟩

theorem isName_any (s : ByteArray) (w : World) (hs : s.size ≤ maxLen) :
    Calls Trym.prog 12 #[.string s] w fun e w' => e = .returned (.bool (isNm s.data.toList)) ∧ w' = w := by
  by_cases hz : s.size = 0
  · exact isName_first s w hz
  · cases hd : dg ((s[0]'(by omega)).toNat : Int) with
    | true => exact isName_digit s w (by omega) hd
    | false => exact isName_loop s w hs (by omega) hd
/-- 'ZZisName'. -/
theorem zzIsName_any (s : ByteArray) (w : World) (hs : s.size ≤ maxLen) :
    Calls Trym.prog 7 #[.string s] w fun e w' => e = .returned (.bool (isNm s.data.toList)) ∧ w' = w := by
  go_enter Trym.func7, Trym.ntmps7
  go_wp2_with (go_at_call 12; refine (isName_any s _ hs).mono ?_; rintro e w' ⟨rfl, rfl⟩)
  go_ret
  exact ⟨rfl, rfl⟩
/-- 'isDigitByte'. -/
theorem digit_any (c : Int) (w : World) : Calls Trym.prog 9 #[.int .u8 c] w fun e w' => e = .returned (.bool (dg c)) ∧ w' = w := by
  have h : (dg c = true ∧ 48 ≤ c ∧ c ≤ 57) ∨ (dg c = false ∧ 48 ≤ c ∧ 57 < c) ∨ (dg c = false ∧ c < 48) := by simp [dg]; omega
  rcases h with ⟨h0, h1, h2⟩ | ⟨h0, h1, h2⟩ | ⟨h0, h1⟩
  all_goals
    have H : Hid (_ = _) := h0
    clear h0
    go_enter Trym.func9, Trym.ntmps9
    go_wp2
    go_ret
    exact ⟨ret_bool (by rw [H.out]; first | done | (simp; omega)), rfl⟩
/-- 'isNameByte'. -/
theorem nameByte_any (c : Int) (w : World) : Calls Trym.prog 8 #[.int .u8 c] w fun e w' => e = .returned (.bool (nm c)) ∧ w' = w := by
  rcases byte_cases c with ⟨hnm0, q1, q2⟩ | ⟨hnm0, q1, q2, q3⟩ | ⟨hnm0, q1, q2, q7⟩ | ⟨hnm0, q1⟩ | ⟨hnm0, q1, q2, q7⟩ | ⟨hnm0, q1⟩
  all_goals
    have H : Hid (_ = _) := hnm0
    clear hnm0
    first | (have q4 : (c == 95) = true := by simp; omega) | (have q4 : (c == 95) = false := by simp; omega)
    try clear q7
    go_enter Trym.func8, Trym.ntmps8
    go_wp2
    go_ret
    exact ⟨ret_bool (by rw [H.out]; first | done | (simp; omega)), rfl⟩
end Go.Proofs.Qxb6001139aMods.NameWalk
