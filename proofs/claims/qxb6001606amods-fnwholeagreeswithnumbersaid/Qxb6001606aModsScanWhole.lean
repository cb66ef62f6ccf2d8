/-
  THE WALK of 'whole'.
-/
import Derived.Test.Qxb6001606aModsScanNumber
import Derived.Test.Qxb6001606aModsScanWord
namespace Go.Proofs.Qxb6001606aMods.ScanWhole
open Go.RowKit ScanPlain ScanWorld ScanSpace ScanSkip ScanDigits ScanNumber ScanWord

/-- The digits' value, as the machine reckons it. -/
def dval (l : List Int) (ds : Nat) : Nat → Int
  | 0 => 0
  | k + 1 => wrap64 (wrap64 (dval l ds k * 10) + (gt l (ds + k) - 48))
theorem dval_bd (l : List Int) (ds : Nat) : ∀ k, k ≤ 18 → ds + k ≤ stop isDg l ds → 0 ≤ dval l ds k ∧ dval l ds k + 1 ≤ 10 ^ k
  | 0, _, _ => by simp [dval]
  | k + 1, h, hs => by
    obtain ⟨h1, h2⟩ := dval_bd l ds k (by omega) (by omega)
    have hd := stop_all isDg l _ ds rfl (ds + k) (by omega) (by omega)
    simp only [isDg, decide_eq_true_eq] at hd
    have hp : (10 : Int) ^ (k + 1) ≤ 10 ^ 18 := by
      have := Nat.pow_le_pow_right (n := 10) (by decide) h
      exact_mod_cast this
    have he : (10 : Int) ^ (k + 1) = 10 ^ k * 10 := Int.pow_succ 10 k
    rw [he] at hp ⊢
    have h18 : (10 : Int) ^ 18 = 1000000000000000000 := by decide
    rw [h18] at hp
    generalize (10 : Int) ^ k = m at *
    rw [dval, IntWalk.wrap64_in (dval l ds k * 10) (by omega), IntWalk.wrap64_in _ (by omega)]
    omega
theorem dval_le {l : List Int} {ds k : Nat} (h : k ≤ 18) (hs : ds + k ≤ stop isDg l ds) : 0 ≤ dval l ds k ∧ dval l ds k ≤ 1000000000000000000 := by
  obtain ⟨h1, h2⟩ := dval_bd l ds k h hs
  have hp : (10 : Int) ^ k ≤ 10 ^ 18 := by
    have := Nat.pow_le_pow_right (n := 10) (by decide) h
    exact_mod_cast this
  have h18 : (10 : Int) ^ 18 = 1000000000000000000 := by decide
  omega
/-- Digits all the way from i to j? -/
def dgTo (l : List Int) (i j : Nat) : Bool := decide (j ≤ stop isDg l i)
theorem run_step {l : List Int} {i k : Nat} (h1 : i + k ≤ stop isDg l i) (h2 : i + k < l.length) (hd : isDg (gt l (i + k)) = true) : i + (k + 1) ≤ stop isDg l i := by
  by_cases he : i + k = stop isDg l i
  · have := stop_end isDg l _ i rfl (by omega)
    rw [← he, hd] at this
    exact absurd this (by decide)
  · omega
theorem run_stop {l : List Int} {i k : Nat} (hd : isDg (gt l (i + k)) = false) : stop isDg l i ≤ i + k := by
  by_cases he : i + k < stop isDg l i
  · have := stop_all isDg l _ i rfl (i + k) (by omega) he
    rw [hd] at this
    exact absurd this (by decide)
  · omega
/-- Is the number a whole one of at most md digits? -/
def okD (l : List Int) (s e : Nat) (md : Int) : Bool := decide (((e - past l 45 s : Nat) : Int) ≤ md) && dgTo l (past l 45 s) e
/-- The value's sign fits. -/
def signOk (l : List Int) (s : Nat) (v : Int) : Prop := (skp l 45 s = true → v ≤ 0) ∧ (skp l 45 s = false → 0 ≤ v)
theorem Sc.far {w : World} {B bb : Nat} {a : Option Addr} {n c : Nat} {l : List Int} {p : Nat} (h : Sc w B bb a n c l p) (Bp : Nat) (hB : B < Bp) (v : Value) : Sc (w.setCell ⟨Bp, 0, none⟩ v) B bb a n c l p :=
  ⟨(World.cell?_setCell_other w _ _ _ (by intro e; simp only [Addr.mk.injEq] at e; omega)).trans h.c0, (World.cell?_setCell_other w _ _ _ (by simp)).trans h.c1, by simpa using h.fz, h.ad, h.lt,
    fun j hj => (World.cell?_setCell_other w _ _ _ (by intro e; simp only [Addr.mk.injEq] at e; have := h.lt (by omega); omega)).trans (h.cell j hj), h.ln, h.sm, h.cp, h.pl, h.rg⟩

/-- At most 18 digits. -/
def short (l : List Int) (s e : Nat) : Prop := e - past l 45 s ≤ 18
theorem okD_bad {l : List Int} {s e ds k : Nat} {md : Int} (hp : past l 45 s = ds) (hd : isDg (gt l (ds + k)) = false) (hk : ds + k < e) : okD l s e md = false := by
  have := run_stop hd
  have h2 : dgTo l ds e = false := by unfold dgTo; simp; omega
  unfold okD; rw [hp, h2]; simp
theorem okD_long {l : List Int} {s e ds : Nat} {md : Int} (hp : past l 45 s = ds) (h : ¬ ((e - ds : Nat) : Int) ≤ md) : okD l s e md = false := by
  unfold okD; rw [hp]; simp [h]
theorem okD_good {l : List Int} {s e ds : Nat} {md : Int} (hp : past l 45 s = ds) (h : ((e - ds : Nat) : Int) ≤ md) (hr : e ≤ stop isDg l ds) : okD l s e md = true := by
  unfold okD dgTo; rw [hp]; simp [h, hr]
theorem sign_neg {l : List Int} {s e ds k : Nat} (hp : past l 45 s = ds) (hk : skp l 45 s = true) (he : e = ds + k) (hr : ds + k ≤ stop isDg l ds) (h : short l s e) : signOk l s (wrap64 (-dval l ds k)) := by
  unfold short at h
  obtain ⟨h1, h2⟩ := dval_le (l := l) (ds := ds) (k := k) (by rw [hp] at h; omega) hr
  rw [IntWalk.wrap64_in _ (by omega)]
  exact ⟨fun _ => by omega, fun h => by rw [hk] at h; exact absurd h (by decide)⟩
theorem sign_pos {l : List Int} {s e ds k : Nat} (hp : past l 45 s = ds) (hk : skp l 45 s = false) (he : e = ds + k) (hr : ds + k ≤ stop isDg l ds) (h : short l s e) : signOk l s (dval l ds k) := by
  unfold short at h
  obtain ⟨h1, h2⟩ := dval_le (l := l) (ds := ds) (k := k) (by rw [hp] at h; omega) hr
  exact ⟨fun h => by rw [hk] at h; exact absurd h (by decide), fun _ => h1⟩

/-- What is known behind 'whole'. -/
structure After (w w' : World) (B bb Bp : Nat) (a : Option Addr) (n c : Nat) (l : List Int) (q : Nat) (v : Int) : Prop where
  val : w'.cell? ⟨Bp, 0, none⟩ = some (.int .i64 v)
  sc : Sc w' B bb a n c l q
  below : Below B w w'
  size : w'.heap.size = w.heap.size

set_option maxHeartbeats 4000000 in
theorem whole_some {w : World} {B bb Bp : Nat} {a : Option Addr} {n c : Nat} {l : List Int} {p : Nat} (hs : Sc w B bb a n c l p) (s e : Nat) (he : Hid (stop isSp l p = s)) (init md : Int)
    (hB : B < Bp) (hcp : w.cell? ⟨Bp, 0, none⟩ = some (.int .i64 init)) (hfp : w.frozen? ⟨Bp, 0, none⟩ = false)
    (hnul : isNul l s = false) (hnum : Hid (numAt l s = some e)) :
    Calls Trym.prog 17 #[.pointer (some ⟨B, 0, none⟩), .pointer (some ⟨Bp, 0, none⟩), .int .i64 md] w fun r w' =>
      r = .returned (.bool (okD l s e md)) ∧ ∃ v, After w w' B bb Bp a n c l e v ∧ (okD l s e md = false → v = init) ∧ (okD l s e md = true → short l s e → signOk l s v) := by
  have hsl : s ≤ l.length := by rw [← he.out]; exact stop_le _ _ _ (by rw [hs.ln]; exact hs.pl)
  go_enter Trym.func17, Trym.ntmps17
  go_wp2_with fail
  refine (null_any hs).mono ?_
  rintro r w1 ⟨rfl, hs1, hon1⟩
  rw [he.out] at hs1 ⊢
  rw [show nulEnd l s = s from by unfold nulEnd; rw [hnul]; rfl] at hs1
  have hst : stop isSp l s = s := by rw [← he.out]; exact stop_twice isSp l p
  go_wp2_with fail
  refine (number_any hs1).mono ?_
  rintro r w2 ⟨rfl, q, hs2, hq, hon2⟩
  rw [hst] at hq ⊢
  rw [hnum.out] at hq ⊢
  obtain rfl := hq e rfl
  have HO2 : Hid (Only B w w2) := hon1.trans hon2
  have hcp2 : w2.cell? ⟨Bp, 0, none⟩ = some (.int .i64 init) := by rw [HO2.out.cell Bp 0 (by omega)]; exact hcp
  have hfp2 : w2.frozen? ⟨Bp, 0, none⟩ = false := by rw [HO2.out.frozen Bp 0]; exact hfp
  clear hon1 hon2 hs1 hs hcp hfp hst hnul hq
  obtain ⟨p1, p2, g1, g2, g3, g4, g5, g6⟩ := numAt_some hnum.out hsl
  have hsq : s < q := by omega
  simp only [numRet]
  have HS2 : Hid (Sc w2 B bb a n c l q) := hs2
  obtain ⟨c0, c1, fz, ad, lt, cell, ln, sm, cp, pl, rg⟩ := hs2
  have HC : Hid (∀ j, j < n → w2.cell? ⟨bb, j, none⟩ = some (.int .u8 (gt l j))) := cell
  have HLN : Hid (l.length = n) := ln
  have cb := cell s (by omega)
  have HOLD : Hid (After w w2 B bb Bp a n c l q init) := ⟨hcp2, HS2.out, HO2.out.below, HO2.out.size⟩
  have HNEW : Hid (∀ v, After w (w2.setCell ⟨Bp, 0, none⟩ (.int .i64 v)) B bb Bp a n c l q v) := fun v => ⟨World.cell?_setCell_same w2 _ _ hcp2, Sc.far HS2.out Bp hB _, HO2.out.below.setCell (p := ⟨Bp, 0, none⟩) (by show B ≤ Bp; omega) _, by rw [World.size_setCell]; exact HO2.out.size⟩
  clear cell rg c0 c1 fz ad hsl
  cases hk : skp l 45 s with
  | true =>
    have hp1 : Hid (past l 45 s = s + 1) := past_yes hk
    have hy : gt l s = 45 := skp_eq hk
    rw [hy] at cb
    have HK : Hid (skp l 45 s = true) := hk
    have hsub : s + 1 < q := by
      rcases g1 with ⟨_, g1⟩ | ⟨g1, _⟩
      · rw [hk] at g1; exact absurd g1 (by decide)
      · omega
    clear g1 g2 g3 g4 g5 g6 hy ln hk
    by_cases hmd : ((q - s - 1 : Nat) : Int) ≤ md
    · go_wp2
      go_loop [10, 35] (fun t i => ∃ k : Nat, k ≤ q - s - 1 ∧ i = .int .i64 k ∧ t = .int .i64 (dval l (s + 1) k) ∧ s + 1 + k ≤ stop isDg l (s + 1)) (fun _ i => (q - s - 1) - (intOf i).toNat)
      case atStart => exact ⟨0, Nat.zero_le _, rfl, rfl, stop_ge _ _ _⟩
      case round =>
        obtain ⟨k, hk, rfl, rfl, hrun⟩ := hrel
        have HRUN : Hid (s + 1 + k ≤ stop isDg l (s + 1)) := hrun
        clear hrun
        by_cases hlt : k < q - s - 1
        · have ck := HC.out (s + 1 + k) (by omega)
          have HB := dg_cases (gt l (s + 1 + k))
          obtain ⟨y, hy⟩ : ∃ y, y = gt l (s + 1 + k) := ⟨_, rfl⟩
          obtain ⟨x, hx⟩ : ∃ x, x = dval l (s + 1) k := ⟨_, rfl⟩
          rw [← hx]
          rw [← hy] at ck HB
          have HY : Hid (y = gt l (s + 1 + k)) := hy
          have HX : Hid (x = dval l (s + 1) k) := hx
          clear hy hx
          rcases HB with ⟨h0, h1, h2⟩ | ⟨h0, h1⟩ | ⟨h0, h1, h2⟩
          · have H0 : Hid (isDg y = true) := h0
            clear h0
            go_wp2
            go_round
            case rel => exact ⟨k + 1, by omega, by go_num, by rw [dval, ← HX.out, ← HY.out], run_step HRUN.out (by rw [HLN.out]; omega) (by rw [← HY.out]; exact H0.out)⟩
            case measure => simp [intOf]; omega
          · have H0 : Hid (isDg y = false) := h0
            clear h0
            go_wp2
            go_ret
            rw [okD_bad hp1.out (by rw [← HY.out]; exact H0.out) (by omega)]
            exact ⟨rfl, init, HOLD.out, fun _ => rfl, fun h => absurd h (by decide)⟩
          · have H0 : Hid (isDg y = false) := h0
            clear h0
            have q1 : decide (57 < y) = true := by simp; omega
            go_wp2
            go_ret
            rw [okD_bad hp1.out (by rw [← HY.out]; exact H0.out) (by omega)]
            exact ⟨rfl, init, HOLD.out, fun _ => rfl, fun h => absurd h (by decide)⟩
        · go_wp2
          go_ret
          rw [okD_good hp1.out (by have : q - (s + 1) = q - s - 1 := by omega
                                   rw [this]; exact hmd) (by have := HRUN.out; omega)]
          exact ⟨rfl, wrap64 (-dval l (s + 1) k), HNEW.out _, fun h => absurd h (by decide), fun _ hsh => sign_neg hp1.out HK.out (by omega) HRUN.out hsh⟩
    · go_wp2
      go_ret
      rw [okD_long hp1.out (by have : q - (s + 1) = q - s - 1 := by omega
                               rw [this]; omega)]
      exact ⟨rfl, init, HOLD.out, fun _ => rfl, fun h => absurd h (by decide)⟩
  | false =>
    have hp1 : Hid (past l 45 s = s) := past_no hk
    have HK : Hid (skp l 45 s = false) := hk
    have hy : gt l s ≠ 45 := by
      intro hy
      rw [(skp_iff l 45 s).2 ⟨by omega, hy⟩] at hk
      exact absurd hk (by decide)
    obtain ⟨y0, hy0⟩ : ∃ y0, y0 = gt l s := ⟨_, rfl⟩
    rw [← hy0] at cb hy
    have q0 : (y0 == 45) = false := by simpa using hy
    clear g1 g2 g3 g4 g5 g6 hy hy0 ln hk
    by_cases hmd : ((q - s : Nat) : Int) ≤ md
    · go_wp2
      go_loop [10, 35] (fun t i => ∃ k : Nat, k ≤ q - s ∧ i = .int .i64 k ∧ t = .int .i64 (dval l (s) k) ∧ s + k ≤ stop isDg l (s)) (fun _ i => (q - s) - (intOf i).toNat)
      case atStart => exact ⟨0, Nat.zero_le _, rfl, rfl, stop_ge _ _ _⟩
      case round =>
        obtain ⟨k, hk, rfl, rfl, hrun⟩ := hrel
        have HRUN : Hid (s + k ≤ stop isDg l (s)) := hrun
        clear hrun
        by_cases hlt : k < q - s
        · have ck := HC.out (s + k) (by omega)
          have HB := dg_cases (gt l (s + k))
          obtain ⟨y, hy⟩ : ∃ y, y = gt l (s + k) := ⟨_, rfl⟩
          obtain ⟨x, hx⟩ : ∃ x, x = dval l (s) k := ⟨_, rfl⟩
          rw [← hx]
          rw [← hy] at ck HB
          have HY : Hid (y = gt l (s + k)) := hy
          have HX : Hid (x = dval l (s) k) := hx
          clear hy hx
          rcases HB with ⟨h0, h1, h2⟩ | ⟨h0, h1⟩ | ⟨h0, h1, h2⟩
          · have H0 : Hid (isDg y = true) := h0
            clear h0
            go_wp2
            go_round
            case rel => exact ⟨k + 1, by omega, by go_num, by rw [dval, ← HX.out, ← HY.out], run_step HRUN.out (by rw [HLN.out]; omega) (by rw [← HY.out]; exact H0.out)⟩
            case measure => simp [intOf]; omega
          · have H0 : Hid (isDg y = false) := h0
            clear h0
            go_wp2
            go_ret
            rw [okD_bad hp1.out (by rw [← HY.out]; exact H0.out) (by omega)]
            exact ⟨rfl, init, HOLD.out, fun _ => rfl, fun h => absurd h (by decide)⟩
          · have H0 : Hid (isDg y = false) := h0
            clear h0
            have q1 : decide (57 < y) = true := by simp; omega
            go_wp2
            go_ret
            rw [okD_bad hp1.out (by rw [← HY.out]; exact H0.out) (by omega)]
            exact ⟨rfl, init, HOLD.out, fun _ => rfl, fun h => absurd h (by decide)⟩
        · go_wp2
          go_ret
          rw [okD_good hp1.out (by have : q - (s) = q - s := by omega
                                   rw [this]; exact hmd) (by have := HRUN.out; omega)]
          exact ⟨rfl, dval l s k, HNEW.out _, fun h => absurd h (by decide), fun _ hsh => sign_pos hp1.out HK.out (by omega) HRUN.out hsh⟩
    · go_wp2
      go_ret
      rw [okD_long hp1.out (by have : q - (s) = q - s := by omega
                               rw [this]; omega)]
      exact ⟨rfl, init, HOLD.out, fun _ => rfl, fun h => absurd h (by decide)⟩

set_option maxHeartbeats 1000000 in
theorem whole_null {w : World} {B bb Bp : Nat} {a : Option Addr} {n c : Nat} {l : List Int} {p : Nat} (hs : Sc w B bb a n c l p) (s : Nat) (he : Hid (stop isSp l p = s)) (init md : Int)
    (hB : B < Bp) (hcp : w.cell? ⟨Bp, 0, none⟩ = some (.int .i64 init)) (hnul : isNul l s = true) :
    Calls Trym.prog 17 #[.pointer (some ⟨B, 0, none⟩), .pointer (some ⟨Bp, 0, none⟩), .int .i64 md] w fun r w' =>
      r = .returned (.bool true) ∧ After w w' B bb Bp a n c l (s + 4) init := by
  go_enter Trym.func17, Trym.ntmps17
  go_wp2_with fail
  refine (null_any hs).mono ?_
  rintro r w1 ⟨rfl, hs1, hon1⟩
  rw [he.out] at hs1 ⊢
  rw [show nulEnd l s = s + 4 from by unfold nulEnd; rw [hnul]; rfl] at hs1
  have hA : Hid (After w w1 B bb Bp a n c l (s + 4) init) := ⟨by rw [hon1.cell Bp 0 (by omega)]; exact hcp, hs1, hon1.below, hon1.size⟩
  clear hs hcp hon1 hs1
  go_wp2
  go_ret
  exact ⟨rfl, hA.out⟩

set_option maxHeartbeats 1000000 in
theorem whole_none {w : World} {B bb Bp : Nat} {a : Option Addr} {n c : Nat} {l : List Int} {p : Nat} (hs : Sc w B bb a n c l p) (s : Nat) (he : Hid (stop isSp l p = s)) (init md : Int)
    (hB : B < Bp) (hcp : w.cell? ⟨Bp, 0, none⟩ = some (.int .i64 init)) (hnul : isNul l s = false) (hnum : Hid (numAt l s = none)) :
    Calls Trym.prog 17 #[.pointer (some ⟨B, 0, none⟩), .pointer (some ⟨Bp, 0, none⟩), .int .i64 md] w fun r w' =>
      r = .returned (.bool false) ∧ ∃ q, After w w' B bb Bp a n c l q init := by
  go_enter Trym.func17, Trym.ntmps17
  go_wp2_with fail
  refine (null_any hs).mono ?_
  rintro r w1 ⟨rfl, hs1, hon1⟩
  rw [he.out] at hs1 ⊢
  rw [show nulEnd l s = s from by unfold nulEnd; rw [hnul]; rfl] at hs1
  have hst : stop isSp l s = s := by rw [← he.out]; exact stop_twice isSp l p
  go_wp2_with fail
  refine (number_any hs1).mono ?_
  rintro r w2 ⟨rfl, q, hs2, hq, hon2⟩
  rw [hst] at ⊢
  rw [hnum.out] at ⊢
  have HO2 : Hid (Only B w w2) := hon1.trans hon2
  have hA : Hid (After w w2 B bb Bp a n c l q init) := ⟨by rw [HO2.out.cell Bp 0 (by omega)]; exact hcp, hs2, HO2.out.below, HO2.out.size⟩
  clear hon1 hon2 hs1 hs hcp hst hnul hq hs2
  simp only [numRet]
  go_wp2
  go_ret
  exact ⟨rfl, q, hA.out⟩
end Go.Proofs.Qxb6001606aMods.ScanWhole
