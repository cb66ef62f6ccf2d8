/-
  The plain law: the line that is joined, taken apart. No Go in sight.
-/
import Derived.WalkKit
namespace Go.Proofs.Qxb6001609aMods.LinePlain

/-- A colon, the tag, a colon, the text. -/
def line (tag text : ByteArray) : ByteArray := (⟨#[58]⟩ : ByteArray) ++ tag ++ (⟨#[58]⟩ : ByteArray) ++ text
theorem line_mk (l : List UInt8) (text : ByteArray) : line ⟨l.toArray⟩ text = ⟨(58 :: (l ++ 58 :: text.data.toList)).toArray⟩ := by
  apply ByteArray.ext
  apply Array.ext'
  simp [line, ByteArray.data_append]
theorem line_size (tag text : ByteArray) : (line tag text).size = tag.size + text.size + 2 := by
  simp only [line, ByteArray.size_append]
  show 1 + tag.size + 1 + text.size = _
  omega
theorem mk_list (t : ByteArray) : t = ⟨t.data.toList.toArray⟩ := by
  apply ByteArray.ext; simp
theorem size_two {t : ByteArray} (h : t.size = 2) : ∃ a b, t = ⟨[a, b].toArray⟩ := by
  have hl : t.data.toList.length = 2 := by simpa using h
  match e : t.data.toList, hl with
  | [a, b], _ => exact ⟨a, b, by rw [← e]⟩
theorem size_three {t : ByteArray} (h : t.size = 3) : ∃ a b c, t = ⟨[a, b, c].toArray⟩ := by
  have hl : t.data.toList.length = 3 := by simpa using h
  match e : t.data.toList, hl with
  | [a, b, c], _ => exact ⟨a, b, c, by rw [← e]⟩
theorem ext_rest (l : List UInt8) (k n : Nat) (h : n = l.length) : (ByteArray.mk l.toArray).extract k n = ⟨(l.drop k).toArray⟩ := by
  rw [ByteArray.extract_mk, List.take_of_length_le (by rw [List.length_drop]; omega)]

/-- A tag of two bytes. -/
theorem two {tag text : ByteArray} (h : tag.size = 2) :
    ∃ hz : 3 < (line tag text).size, ((line tag text)[0].toNat : Int) = 58 ∧ (line tag text)[1] = tag[0] ∧ (line tag text)[2] = tag[1] ∧ ((line tag text)[3].toNat : Int) = 58 ∧
      (line tag text).extract 1 3 = tag ∧ (line tag text).extract 4 (line tag text).size = text := by
  have hs := line_size tag text
  refine ⟨by omega, ?_⟩
  obtain ⟨a, b, rfl⟩ := size_two h
  have e := line_mk [a, b] text
  refine ⟨?_, ?_, ?_, ?_, ?_, ?_⟩
  · simp only [e]; rfl
  · simp only [e]; rfl
  · simp only [e]; rfl
  · simp only [e]; rfl
  · rw [e, ByteArray.extract_mk]; rfl
  · rw [hs, h, e, ext_rest _ _ _ (by simp; omega)]
    exact (mk_list text).symm
/-- A tag of three bytes. -/
theorem three {tag text : ByteArray} (h : tag.size = 3) :
    ∃ hz : 4 < (line tag text).size, ((line tag text)[0].toNat : Int) = 58 ∧ (line tag text)[1] = tag[0] ∧ (line tag text)[2] = tag[1] ∧ (line tag text)[3] = tag[2] ∧ ((line tag text)[4].toNat : Int) = 58 ∧
      (line tag text).extract 1 4 = tag ∧ (line tag text).extract 5 (line tag text).size = text := by
  have hs := line_size tag text
  refine ⟨by omega, ?_⟩
  obtain ⟨a, b, c, rfl⟩ := size_three h
  have e := line_mk [a, b, c] text
  refine ⟨?_, ?_, ?_, ?_, ?_, ?_, ?_⟩
  · simp only [e]; rfl
  · simp only [e]; rfl
  · simp only [e]; rfl
  · simp only [e]; rfl
  · simp only [e]; rfl
  · rw [e, ByteArray.extract_mk]; rfl
  · rw [hs, h, e, ext_rest _ _ _ (by simp; omega)]
    exact (mk_list text).symm
end Go.Proofs.Qxb6001609aMods.LinePlain
