/-
  THE WALKS of 'ZZNumber' and 'ZZWhole'.
-/
import Derived.Test.Qxb6001606aModsScanWhole
namespace Go.Proofs.Qxb6001606aMods.ScanDoors
open Go.RowKit ScanPlain ScanWorld ScanSpace ScanSkip ScanDigits ScanNumber ScanWord ScanWhole

/-- A row of bytes that lies in block bb (none where there are none). -/
structure Row (w : World) (bb : Nat) (a : Option Addr) (n c : Nat) (l : List Int) : Prop where
  ad : 0 < n → a = some ⟨bb, 0, none⟩
  lt : 0 < n → bb < w.heap.size
  cell : ∀ j, j < n → w.cell? ⟨bb, j, none⟩ = some (.int .u8 (gt l j))
  ln : l.length = n
  sm : n ≤ 1048576
  cp : n ≤ c
  rg : ∀ j, 0 ≤ gt l j ∧ gt l j ≤ 255

/-- The scanner, as it is laid. -/
def scObj (a : Option Addr) (n c p : Nat) : Obj := .cells #[.slice a n c, .int .i64 p, .int .i64 0, .slice none 0 0, .slice none 0 0, .slice none 0 0, .slice none 0 0, .int .i64 0, .pointer none] 37
theorem Row.below {w w' : World} {bb : Nat} {a : Option Addr} {n c : Nat} {l : List Int} (h : Row w bb a n c l) (hb : Below w.heap.size w w') : Row w' bb a n c l :=
  ⟨h.ad, fun hn => by have := h.lt hn; have := hb.size; omega, fun j hj => by rw [hb.cell (p := ⟨bb, j, none⟩) (h.lt (by omega))]; exact h.cell j hj, h.ln, h.sm, h.cp, h.rg⟩
theorem Row.sc {w : World} {bb : Nat} {a : Option Addr} {n c : Nat} {l : List Int} {p : Nat} (h : Row w bb a n c l) (hp : p ≤ n) : Sc (w.alloc (scObj a n c p)) w.heap.size bb a n c l p :=
  have hb : Below w.heap.size w (w.alloc (scObj a n c p)) := (Below.refl _ _).alloc (Nat.le_refl _) _
  ⟨by rw [scObj, World.cell?_alloc_mark]; rfl, by rw [scObj, World.cell?_alloc_mark]; rfl, by simp [scObj, go_sem], h.ad, h.lt,
    fun j hj => by rw [hb.cell (p := ⟨bb, j, none⟩) (h.lt (by omega))]; exact h.cell j hj, h.ln, h.sm, h.cp, hp, h.rg⟩
theorem Sc.alloc {w : World} {B bb : Nat} {a : Option Addr} {n c : Nat} {l : List Int} {p : Nat} (h : Sc w B bb a n c l p) (hB : B < w.heap.size) (o : Obj) : Sc (w.alloc o) B bb a n c l p :=
  have hb : Below w.heap.size w (w.alloc o) := (Below.refl _ _).alloc (Nat.le_refl _) _
  ⟨by rw [hb.cell (p := ⟨B, 0, none⟩) hB]; exact h.c0, by rw [hb.cell (p := ⟨B, 1, none⟩) hB]; exact h.c1, by rw [hb.frozen (p := ⟨B, 1, none⟩) hB]; exact h.fz, h.ad, h.lt,
    fun j hj => by rw [hb.cell (p := ⟨bb, j, none⟩) (by have := h.lt (by omega); show bb < _; omega)]; exact h.cell j hj, h.ln, h.sm, h.cp, h.pl, h.rg⟩

set_option maxHeartbeats 1000000 in
theorem zznum_some {w : World} {bb : Nat} {a : Option Addr} {n c : Nat} {l : List Int} {p : Nat} (hr : Row w bb a n c l) (hp : p ≤ n) (s e : Nat) (he : Hid (stop isSp l p = s)) (hnum : Hid (numAt l s = some e)) :
    Calls Trym.prog 8 #[.slice a n c, .int .i64 p] w fun r w' =>
      r = .returned (.tuple #[.slice (some ⟨bb, s, none⟩) (e - s) (c - s), .bool true, .int .i64 e]) ∧ Below w.heap.size w w' := by
  have hsc : Hid (Sc (w.alloc (scObj a n c p)) w.heap.size bb a n c l p) := hr.sc hp
  have hb0 : Hid (Below w.heap.size w (w.alloc (scObj a n c p))) := (Below.refl _ _).alloc (Nat.le_refl _) _
  clear hr
  go_enter Trym.func8, Trym.ntmps8
  go_wp2_with fail
  refine (number_any hsc.out).mono ?_
  rintro r w1 ⟨rfl, q, hs1, hq, hon⟩
  rw [he.out] at hq ⊢
  obtain rfl := hq e hnum.out
  rw [hnum.out]
  have HB : Hid (Below w.heap.size w w1) := hb0.out.trans hon.below
  obtain ⟨c0, c1, fz, ad, lt, cell, ln, sm, cp, pl, rg⟩ := hs1
  clear hq cell rg ad ln c0 fz lt hon
  simp only [numRet]
  go_wp2
  go_quiet (fail)
  go_wp2
  go_ret3
  exact ⟨rfl, below_drewN _ HB.out⟩
set_option maxHeartbeats 1000000 in
theorem zznum_none {w : World} {bb : Nat} {a : Option Addr} {n c : Nat} {l : List Int} {p : Nat} (hr : Row w bb a n c l) (hp : p ≤ n) (s : Nat) (he : Hid (stop isSp l p = s)) (hnum : Hid (numAt l s = none)) :
    Calls Trym.prog 8 #[.slice a n c, .int .i64 p] w fun r w' =>
      ∃ q : Nat, r = .returned (.tuple #[.slice none 0 0, .bool false, .int .i64 q]) ∧ Below w.heap.size w w' := by
  have hsc : Hid (Sc (w.alloc (scObj a n c p)) w.heap.size bb a n c l p) := hr.sc hp
  have hb0 : Hid (Below w.heap.size w (w.alloc (scObj a n c p))) := (Below.refl _ _).alloc (Nat.le_refl _) _
  clear hr
  go_enter Trym.func8, Trym.ntmps8
  go_wp2_with fail
  refine (number_any hsc.out).mono ?_
  rintro r w1 ⟨rfl, q, hs1, hq, hon⟩
  rw [he.out, hnum.out]
  have HB : Hid (Below w.heap.size w w1) := hb0.out.trans hon.below
  obtain ⟨c0, c1, fz, ad, lt, cell, ln, sm, cp, pl, rg⟩ := hs1
  clear hq cell rg ad ln c0 fz lt hon
  simp only [numRet]
  go_wp2
  go_quiet (fail)
  go_wp2
  go_ret3
  exact ⟨q, rfl, below_drewN _ HB.out⟩

/-- The world in which 'ZZWhole' calls 'whole'. -/
theorem whole_start {w : World} {bb : Nat} {a : Option Addr} {n c : Nat} {l : List Int} {p : Nat} (hr : Row w bb a n c l) (hp : p ≤ n) (init : Int) :
    Sc ((w.alloc (scObj a n c p)).alloc (.cells #[.int .i64 init] 2)) w.heap.size bb a n c l p ∧ ((w.alloc (scObj a n c p)).alloc (.cells #[.int .i64 init] 2)).cell? ⟨w.heap.size + 1, 0, none⟩ = some (.int .i64 init) ∧
    ((w.alloc (scObj a n c p)).alloc (.cells #[.int .i64 init] 2)).frozen? ⟨w.heap.size + 1, 0, none⟩ = false ∧ Below w.heap.size w ((w.alloc (scObj a n c p)).alloc (.cells #[.int .i64 init] 2)) := by
  have hz : (w.alloc (scObj a n c p)).heap.size = w.heap.size + 1 := by simp
  refine ⟨Sc.alloc (hr.sc hp) (by omega) _, ?_, ?_, ((Below.refl _ _).alloc (Nat.le_refl _) _).alloc (by omega) _⟩
  · rw [← hz, World.cell?_alloc_mark]; rfl
  · rw [← hz]; simp [go_sem]

set_option maxHeartbeats 1000000 in
theorem zzwhole_some {w : World} {bb : Nat} {a : Option Addr} {n c : Nat} {l : List Int} {p : Nat} (hr : Row w bb a n c l) (hp : p ≤ n) (s e : Nat) (he : Hid (stop isSp l p = s)) (init md : Int) (hnul : Hid (isNul l s = false)) (hnum : Hid (numAt l s = some e)) (ok : Bool) (hok : Hid (okD l s e md = ok)) :
    Calls Trym.prog 14 #[.slice a n c, .int .i64 p, .int .i64 init, .int .i64 md] w fun r w' =>
      ∃ v : Int, r = .returned (.tuple #[.int .i64 v, .bool ok, .int .i64 e]) ∧ Below w.heap.size w w' ∧ (ok = false → v = init) ∧ (ok = true → short l s e → signOk l s v) := by
  have hW : Hid _ := whole_start hr hp init
  clear hr
  go_enter Trym.func14, Trym.ntmps14
  go_wp2_with fail
  obtain ⟨hsc, hcl, hfz, hb0⟩ := hW.out
  refine (whole_some hsc s e he init md (by omega) hcl hfz hnul.out hnum).mono ?_
  rintro r w1 ⟨rfl, v, hA, hv1, hv2⟩
  rw [hok.out] at hv1 hv2 ⊢
  have HB : Hid (Below w.heap.size w w1) := hb0.trans hA.below
  have c1 := hA.sc.c1
  have cv := hA.val
  have H1 : Hid (ok = false → v = init) := hv1
  have H2 : Hid (ok = true → short l s e → signOk l s v) := hv2
  clear hsc hcl hfz hb0 hv1 hv2 hA hW
  go_wp2
  go_quiet (fail)
  go_wp2
  go_ret3
  exact ⟨v, rfl, below_drewN _ HB.out, H1.out, H2.out⟩
set_option maxHeartbeats 1000000 in
theorem zzwhole_null {w : World} {bb : Nat} {a : Option Addr} {n c : Nat} {l : List Int} {p : Nat} (hr : Row w bb a n c l) (hp : p ≤ n) (s : Nat) (he : Hid (stop isSp l p = s)) (init md : Int) (hnul : Hid (isNul l s = true)) :
    Calls Trym.prog 14 #[.slice a n c, .int .i64 p, .int .i64 init, .int .i64 md] w fun r w' =>
      r = .returned (.tuple #[.int .i64 init, .bool true, .int .i64 (s + 4 : Nat)]) ∧ Below w.heap.size w w' := by
  have hW : Hid _ := whole_start hr hp init
  clear hr
  go_enter Trym.func14, Trym.ntmps14
  go_wp2_with fail
  obtain ⟨hsc, hcl, hfz, hb0⟩ := hW.out
  refine (whole_null hsc s he init md (by omega) hcl hnul.out).mono ?_
  rintro r w1 ⟨rfl, hA⟩
  have HB : Hid (Below w.heap.size w w1) := hb0.trans hA.below
  have c1 := hA.sc.c1
  have cv := hA.val
  clear hsc hcl hfz hb0 hA hW
  generalize hse : s + 4 = s4 at *
  have HSE : Hid (s + 4 = s4) := hse
  clear hse
  go_wp2
  go_quiet (fail)
  go_wp2
  go_ret3
  rw [HSE.out]
  exact ⟨rfl, below_drewN _ HB.out⟩
set_option maxHeartbeats 1000000 in
theorem zzwhole_none {w : World} {bb : Nat} {a : Option Addr} {n c : Nat} {l : List Int} {p : Nat} (hr : Row w bb a n c l) (hp : p ≤ n) (s : Nat) (he : Hid (stop isSp l p = s)) (init md : Int) (hnul : Hid (isNul l s = false)) (hnum : Hid (numAt l s = none)) :
    Calls Trym.prog 14 #[.slice a n c, .int .i64 p, .int .i64 init, .int .i64 md] w fun r w' =>
      ∃ q : Nat, r = .returned (.tuple #[.int .i64 init, .bool false, .int .i64 q]) ∧ Below w.heap.size w w' := by
  have hW : Hid _ := whole_start hr hp init
  clear hr
  go_enter Trym.func14, Trym.ntmps14
  go_wp2_with fail
  obtain ⟨hsc, hcl, hfz, hb0⟩ := hW.out
  refine (whole_none hsc s he init md (by omega) hcl hnul.out hnum).mono ?_
  rintro r w1 ⟨rfl, q, hA⟩
  have HB : Hid (Below w.heap.size w w1) := hb0.trans hA.below
  have c1 := hA.sc.c1
  have cv := hA.val
  clear hsc hcl hfz hb0 hA hW
  go_wp2
  go_quiet (fail)
  go_wp2
  go_ret3
  exact ⟨q, rfl, below_drewN _ HB.out⟩
end Go.Proofs.Qxb6001606aMods.ScanDoors
