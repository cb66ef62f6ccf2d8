/-
  THE WALKS of the law's own small functions: 'zzClone', 'zzIsSpace', 'zzIsNullAt'.
-/
import Derived.Test.Qxb6001606aModsScanDoors
import Derived.Deep.OwnRows
import Derived.Lib.SliceRun
namespace Go.Proofs.Qxb6001606aMods.Clone
open Go.RowKit ScanPlain ScanWorld ScanDoors ScanWord

theorem info5 : (Trym.prog.info? 5).map (fun i => (i.zero, i.size, i.bytes)) = some (some (.int .u8 0), 1, 1) := by kernel_rfl
theorem cell_lt {w : World} {a : Addr} {v : Value} (h : w.cell? a = some v) : a.block < w.heap.size := by
  by_cases hl : a.block < w.heap.size
  · exact hl
  · have : w.heap[a.block]? = none := by simp; omega
    simp [World.cell?, this] at h

set_option maxHeartbeats 400000 in
theorem clone_nil (w : World) : Calls Trym.prog 7 #[.slice none 0 0] w fun e w' => e = .returned (.slice none 0 0) ∧ w' = w := by
  have hnil := fun wx => Lib.run_eql_slice_nil (P := Trym.prog) wx 22 5 none 0 0 0 0 Trym.underlying22
  go_enter Trym.func7, Trym.ntmps7
  go_wp2
  go_ret
  exact ⟨rfl, rfl⟩

/-- What the loop keeps: the first k bytes have been copied. -/
structure Part (w wr : World) (len k : Nat) (l : List Int) : Prop where
  done : ∀ j, j < k → wr.cell? ⟨w.heap.size, j, none⟩ = some (.int .u8 (gt l j))
  have_ : ∀ j, j < len → ∃ v, wr.cell? ⟨w.heap.size, j, none⟩ = some v
  frozen : ∀ j, wr.frozen? ⟨w.heap.size, j, none⟩ = false
  below : Below w.heap.size w wr
  size : wr.heap.size = w.heap.size + 1

theorem Part.step {w wr : World} {len k : Nat} {l : List Int} (h : Part w wr len k l) (hk : k < len) : Part w (wr.setCell ⟨w.heap.size, k, none⟩ (.int .u8 (gt l k))) len (k + 1) l := by
  obtain ⟨v0, hv0⟩ := h.have_ k hk
  refine ⟨fun j hj => ?_, fun j hj => ?_, fun j => by simpa using h.frozen j, h.below.setCell (p := ⟨w.heap.size, k, none⟩) (Nat.le_refl _) _, by simpa using h.size⟩
  · by_cases e : j = k
    · subst e; exact World.cell?_setCell_same wr _ _ hv0
    · rw [World.cell?_setCell_other wr _ _ _ (by intro e'; simp only [Addr.mk.injEq] at e'; omega)]; exact h.done j (by omega)
  · by_cases e : j = k
    · subst e; exact ⟨_, World.cell?_setCell_same wr _ _ hv0⟩
    · rw [World.cell?_setCell_other wr _ _ _ (by intro e'; simp only [Addr.mk.injEq] at e'; omega)]; exact h.have_ j hj

set_option maxHeartbeats 1000000 in
theorem clone_some (w : World) (x : Addr) (len cap : Nat) (l : List Int) (hln : l.length = len) (hl : len ≤ 1048576)
    (hc : ∀ j, j < len → w.cell? (x.add j) = some (.int .u8 (gt l j))) :
    Calls Trym.prog 7 #[.slice (some x) len cap] w fun e w' => e = .returned (.slice (some ⟨w.heap.size, 0, none⟩) len len) ∧ Part w w' len len l := by
  obtain ⟨xb, xo, spot⟩ := x
  have hnil := fun wx => Lib.run_eql_slice_nil (P := Trym.prog) wx 22 5 (some ⟨xb, xo, spot⟩) len cap 0 0 Trym.underlying22
  have hmk := run_make_row' (P := Trym.prog) 22 5 (.int .u8 0) 1 Trym.underlying22 info5 rfl .i64 .i64 len (by omega) (by omega)
  have HC : Hid (∀ j, j < len → w.cell? ((⟨xb, xo, spot⟩ : Addr).add j) = some (.int .u8 (gt l j))) := hc
  clear hc
  have H0 : Hid (Part w (w.alloc (.cells (madeCells #[.int .u8 0] len) 5)) len 0 l) := ⟨fun j hj => absurd hj (Nat.not_lt_zero _), fun j hj => by
      refine ⟨.int .u8 0, ?_⟩
      rw [World.cell?_alloc_mark]
      simp [madeCells, hj, Nat.mod_one], fun j => by simp [go_sem], (Below.refl _ _).alloc (Nat.le_refl _) _, by simp⟩
  go_enter Trym.func7, Trym.ntmps7
  go_wp2
  go_loopw [4] (fun i wr => ∃ k : Nat, k ≤ len ∧ i = .int .i64 k ∧ Part w wr len k l) (fun i _ => len - (intOf i).toNat)
  case atStart => exact ⟨0, Nat.zero_le _, rfl, H0.out⟩
  case round =>
    obtain ⟨k, hk, rfl, hp⟩ := hrel
    have HP : Hid (Part w wr len k l) := hp
    by_cases hlt : k < len
    · have cs := HC.out k hlt
      have hspot : spot = none := by simpa [Addr.add] using World.cell?_spot (HC.out 0 (by omega))
      subst hspot
      rw [Go.WideShapes.add_plain] at cs
      have hxb : xb < w.heap.size := cell_lt cs
      rw [← hp.below.cell (p := ⟨xb, xo + k, none⟩) hxb] at cs
      obtain ⟨y, hy⟩ : ∃ y, y = gt l k := ⟨_, rfl⟩
      rw [← hy] at cs
      obtain ⟨v0, hv0⟩ := hp.have_ k hlt
      have fz := hp.frozen k
      have HN := HP.out.step hlt
      rw [← hy] at HN
      have HN2 : Hid (Part w (wr.setCell ⟨w.heap.size, k, none⟩ (.int .u8 y)) len (k + 1) l) := HN
      clear hp hy HN
      go_wp2
      go_roundw
      case rel => exact ⟨k + 1, by omega, by go_num, HN2.out⟩
      case measure => simp [intOf]; omega
    · clear hp
      go_wp2
      go_ret
      obtain rfl : k = len := by omega
      exact ⟨rfl, HP.out⟩

theorem sp_ways (y : Int) : (isSp y = true ∧ y = 32) ∨ (isSp y = true ∧ y = 9) ∨ (isSp y = true ∧ y = 10) ∨ (isSp y = true ∧ y = 13) ∨ (isSp y = false ∧ (y == 32) = false ∧ (y == 9) = false ∧ (y == 10) = false ∧ (y == 13) = false) := by
  simp [isSp]; omega
/-- 'zzIsSpace'. -/
theorem isSpace_any (y : Int) (w : World) : Calls Trym.prog 9 #[.int .u8 y] w fun e w' => e = .returned (.bool (isSp y)) ∧ w' = w := by
  rcases sp_ways y with ⟨h0, rfl⟩ | ⟨h0, rfl⟩ | ⟨h0, rfl⟩ | ⟨h0, rfl⟩ | ⟨h0, h1, h2, h3, h4⟩
  all_goals
    have H : Hid (_ = _) := h0
    clear h0
    go_enter Trym.func9, Trym.ntmps9
    go_wp2
    go_ret
    exact ⟨ret_bool H.out.symm, rfl⟩
theorem nul_ways (l : List Int) (j : Nat) (h : j + 4 ≤ l.length) :
    (isNul l j = false ∧ (gt l j == 110) = false) ∨ (isNul l j = false ∧ gt l j = 110 ∧ (gt l (j + 1) == 117) = false) ∨ (isNul l j = false ∧ gt l j = 110 ∧ gt l (j + 1) = 117 ∧ (gt l (j + 2) == 108) = false) ∨
    (isNul l j = false ∧ gt l j = 110 ∧ gt l (j + 1) = 117 ∧ gt l (j + 2) = 108 ∧ (gt l (j + 3) == 108) = false) ∨ (isNul l j = true ∧ gt l j = 110 ∧ gt l (j + 1) = 117 ∧ gt l (j + 2) = 108 ∧ gt l (j + 3) = 108) := by
  simp only [isNul, decide_eq_false_iff_not, decide_eq_true_eq, beq_eq_false_iff_ne, ne_eq]
  omega
set_option maxHeartbeats 1000000 in
/-- 'zzIsNullAt'. -/
theorem isNull_any {w : World} {bb : Nat} {a : Option Addr} {n c : Nat} {l : List Int} (hr : Row w bb a n c l) (j : Nat) (hj : j ≤ n) :
    Calls Trym.prog 15 #[.slice a n c, .int .i64 j] w fun e w' => e = .returned (.bool (isNul l j)) ∧ w' = w := by
  obtain ⟨ad, lt, cell, ln, sm, cp, rg⟩ := hr
  by_cases h4 : j + 4 ≤ n
  · obtain rfl := ad (by omega)
    have k0 := cell j (by omega)
    have k1 := cell (j + 1) (by omega)
    have k2 := cell (j + 2) (by omega)
    have k3 := cell (j + 3) (by omega)
    have hw := nul_ways l j (by omega)
    have HN : Hid (isNul l j = isNul l j) := rfl
    generalize gt l j = y0 at *
    generalize gt l (j + 1) = y1 at *
    generalize gt l (j + 2) = y2 at *
    generalize gt l (j + 3) = y3 at *
    clear cell ad rg ln HN lt
    rcases hw with ⟨h0, h1⟩ | ⟨h0, rfl, h2⟩ | ⟨h0, rfl, rfl, h3⟩ | ⟨h0, rfl, rfl, rfl, h4'⟩ | ⟨h0, rfl, rfl, rfl, rfl⟩
    all_goals
      have H : Hid (_ = _) := h0
      clear h0
      go_enter Trym.func15, Trym.ntmps15
      go_wp2
      go_ret
      exact ⟨ret_bool H.out.symm, rfl⟩
  · have H : Hid (isNul l j = false) := by
      show isNul l j = false
      simp only [isNul, decide_eq_false_iff_not]; omega
    have q1 : decide (4 ≤ (n : Int) - (j : Int)) = false := by simp; omega
    clear cell ad rg ln lt
    go_enter Trym.func15, Trym.ntmps15
    go_wp2
    go_ret
    exact ⟨ret_bool H.out.symm, rfl⟩
end Go.Proofs.Qxb6001606aMods.Clone
