/-
  THE WALK of 'number'.
-/
import Derived.Test.Qxb6001606aModsScanSpace
import Derived.Test.Qxb6001606aModsScanSkip
import Derived.Deep.DeepCutAuto
namespace Go.Proofs.Qxb6001606aMods.ScanNumber
open Go.RowKit ScanPlain ScanWorld ScanSpace ScanSkip ScanDigits

theorem past_yes {l : List Int} {c : Int} {i : Nat} (h : skp l c i = true) : past l c i = i + 1 := by unfold past; rw [if_pos h]
theorem past_no {l : List Int} {c : Int} {i : Nat} (h : skp l c i = false) : past l c i = i := by unfold past; rw [if_neg (by rw [h]; exact Bool.false_ne_true)]
theorem intEnd_yes {l : List Int} {i : Nat} (h : skp l 48 i = true) : intEnd l i = i + 1 := by unfold intEnd; rw [if_pos h]
theorem intEnd_no {l : List Int} {i : Nat} (h : skp l 48 i = false) : intEnd l i = stop isDg l i := by unfold intEnd; rw [if_neg (by rw [h]; exact Bool.false_ne_true)]
/-- Is there no whole part? -/
def noInt (l : List Int) (i : Nat) : Bool := decide (intEnd l i = i)
/-- Where the fraction ends, if there is one. -/
def fracPos (l : List Int) (i : Nat) : Nat := if skp l 46 i = true then stop isDg l (i + 1) else i
/-- A '.' without a digit? -/
def noFrac (l : List Int) (i : Nat) : Bool := (fracEnd l i).isNone
/-- What 'number' hands back. -/
def numRet (bb s c : Nat) (o : Option Nat) : Value := match o with
  | some q => .tuple #[.slice (some ⟨bb, s, none⟩) (q - s) (c - s), .bool true]
  | none => .tuple #[.slice none 0 0, .bool false]

theorem noInt_yes {l : List Int} {i : Nat} (h : noInt l i = true) : intEnd l i = i := by simpa [noInt] using h
theorem noInt_no {l : List Int} {i : Nat} (h : noInt l i = false) : intEnd l i ≠ i := by simpa [noInt] using h
theorem noInt_zero {l : List Int} {i : Nat} (h : intEnd l i = i + 1) : noInt l i = false := by unfold noInt; rw [h]; simp
theorem noFrac_none {l : List Int} {i : Nat} (h : noFrac l i = true) : fracEnd l i = none := by
  unfold noFrac at h; exact Option.isNone_iff_eq_none.1 h
theorem noFrac_some {l : List Int} {i : Nat} (h : noFrac l i = false) : fracEnd l i = some (fracPos l i) := by
  unfold noFrac fracEnd at h
  unfold fracEnd fracPos
  split
  · split
    · simp_all
    · rfl
  · rfl
theorem noFrac_no {l : List Int} {i : Nat} (h : skp l 46 i = false) : noFrac l i = false ∧ fracPos l i = i := by
  unfold noFrac fracEnd fracPos; simp [h]
theorem noFrac_dot {l : List Int} {i : Nat} (h : skp l 46 i = true) : noFrac l i = (((stop isDg l (i + 1) : Int) - ((i + 1 : Nat) : Int)) == 0) ∧ fracPos l i = stop isDg l (i + 1) := by
  unfold noFrac fracEnd fracPos
  simp only [h, if_true]
  refine ⟨?_, trivial⟩
  by_cases e : stop isDg l (i + 1) = i + 1
  · rw [if_pos e, e]; simp
  · rw [if_neg e, Bool.eq_iff_iff]; simp; omega
theorem fracPos_ge (l : List Int) (i : Nat) : i ≤ fracPos l i := by
  unfold fracPos; split
  · exact Nat.le_of_succ_le (stop_ge _ _ _)
  · exact Nat.le_refl _
/-- Past 'e' or 'E'. -/
def expPos (l : List Int) (i : Nat) : Nat := if isExp l i = true then i + 1 else i
theorem isExp_e {l : List Int} {i : Nat} (h : skp l 101 i = true) : isExp l i = true ∧ expPos l i = i + 1 := by
  have : isExp l i = true := by unfold isExp; rw [h]; rfl
  exact ⟨this, by unfold expPos; rw [if_pos this]⟩
theorem isExp_E {l : List Int} {i : Nat} (h : skp l 101 i = false) : isExp l i = skp l 69 i ∧ expPos l i = past l 69 i := by
  have : isExp l i = skp l 69 i := by unfold isExp; rw [h]; rfl
  exact ⟨this, by unfold expPos past; rw [this]⟩
theorem signEnd_plus {l : List Int} {i : Nat} (h : skp l 43 i = true) : signEnd l i = i + 1 := by unfold signEnd; rw [if_pos h]
theorem signEnd_else {l : List Int} {i : Nat} (h : skp l 43 i = false) : signEnd l i = past l 45 i := by unfold signEnd; rw [if_neg (by rw [h]; exact Bool.false_ne_true)]
theorem past_ge (l : List Int) (c : Int) (i : Nat) : i ≤ past l c i := by unfold past; split <;> omega
theorem numAt_noInt {l : List Int} {s p1 : Nat} (e1 : past l 45 s = p1) (h : noInt l p1 = true) : numAt l s = none := by
  unfold numAt; rw [e1, if_pos (noInt_yes h)]
theorem numAt_frac {l : List Int} {s p1 p2 : Nat} (e1 : past l 45 s = p1) (h : noInt l p1 = false) (e2 : intEnd l p1 = p2) : numAt l s = (fracEnd l p2).bind (expEnd l) := by
  unfold numAt; rw [e1, if_neg (noInt_no h), e2]
  cases fracEnd l p2 <;> rfl
theorem expEnd_no {l : List Int} {i : Nat} (h : isExp l i = false) : expEnd l i = some i ∧ expPos l i = i := by
  unfold expEnd expPos; simp [h]
/-- No digit in the exponent? -/
def noExp (l : List Int) (i : Nat) : Bool := decide (stop isDg l i = i)
theorem expEnd_yes {l : List Int} {i : Nat} (h : isExp l i = true) : expEnd l i = (if noExp l (signEnd l (i + 1)) = true then none else some (stop isDg l (signEnd l (i + 1)))) ∧ expPos l i = i + 1 := by
  unfold expEnd expPos noExp; simp [h]
theorem noExp_eq (l : List Int) (i : Nat) : (((stop isDg l i : Nat) : Int) - (i : Int) == 0) = noExp l i := by
  unfold noExp; rw [Bool.eq_iff_iff]; simp; omega

set_option maxHeartbeats 2000000 in
theorem number_at {w : World} {B bb : Nat} {a : Option Addr} {n c : Nat} {l : List Int} {p : Nat} (hs : Sc w B bb a n c l p) (s p1 : Nat) (he : Hid (stop isSp l p = s)) (he1 : Hid (past l 45 s = p1)) :
    Calls Trym.prog 16 #[.pointer (some ⟨B, 0, none⟩)] w fun e w' =>
      e = .returned (numRet bb s c (numAt l s)) ∧ ∃ q, Sc w' B bb a n c l q ∧ (∀ x, numAt l s = some x → q = x) ∧ Only B w w' := by
  go_enter Trym.func16, Trym.ntmps16
  go_wp2_with fail
  refine (space_any hs).mono ?_
  rintro e w1 ⟨rfl, hs1, hon1⟩
  rw [he.out] at hs1
  have c1 := hs1.c1
  clear hs
  go_wp2_with fail
  refine (skip_any hs1 45).mono ?_
  rintro e w2 ⟨rfl, hs2, hon2⟩
  rw [he1.out] at hs2
  have HO2 : Hid (Only B w w2) := hon1.trans hon2
  clear c1 hon1 hon2 hs1
  go_upto_region 4 with fail
  go_cut [20] (fun t wr => t = .bool (noInt l p1) ∧ Sc wr B bb a n c l (intEnd l p1) ∧ Only B w wr)
  case first =>
    go_wp2_with fail
    refine (skip_any hs2 48).mono ?_
    rintro e w3 ⟨rfl, hs3, hon3⟩
    have HO3 : Hid (Only B w w3) := HO2.out.trans hon3
    clear hon3 hs2
    cases hz : skp l 48 p1 with
    | true =>
      rw [past_yes hz] at hs3
      have HI := intEnd_yes hz
      have HN0 := noInt_zero HI
      have HN : Hid (noInt l p1 = false) := HN0
      rw [← HI] at hs3
      clear HI HN0
      go_wp2
      go_meet
      case rel => exact ⟨by rw [HN.out], hs3, HO3.out⟩
    | false =>
      rw [past_no hz] at hs3
      have HI := intEnd_no hz
      go_wp2_with fail
      refine (digits_any hs3).mono ?_
      rintro e w4 ⟨rfl, hs4, hon4⟩
      rw [← HI] at hs4 ⊢
      have HO4 : Hid (Only B w w4) := HO3.out.trans hon4
      have q : ((((intEnd l p1 : Nat) : Int) - (p1 : Int)) == 0) = noInt l p1 := by
        unfold noInt; rw [Bool.eq_iff_iff]; simp; omega
      clear HI hon4 hs3
      generalize intEnd l p1 = p2 at *
      generalize noInt l p1 = b1 at *
      go_wp2
      go_meet
      case rel => exact ⟨rfl, hs4, HO4.out⟩
  case rest =>
    obtain ⟨rfl, hs3, HO3⟩ := hcut
    clear hs2 HO2
    cases hn : noInt l p1 with
    | true =>
      have HR : Hid (numAt l s = none) := numAt_noInt he1.out hn
      have HO : Hid (Only B w wc) := HO3
      clear HO3
      go_wp2
      go_ret2
      rw [HR.out]
      exact ⟨rfl, _, hs3, by simp, HO.out⟩
    | false =>
      have HO : Hid (Only B w wc) := HO3
      clear HO3
      obtain ⟨p2, hp2⟩ : ∃ p2, intEnd l p1 = p2 := ⟨_, rfl⟩
      have HR : Hid (numAt l s = (fracEnd l p2).bind (expEnd l)) := numAt_frac he1.out hn hp2
      have HG : p1 ≤ p2 := by rw [← hp2]; exact intEnd_ge l p1
      rw [hp2] at hs3
      have HE2 : p1 < p2 := by have := noInt_no hn; omega
      clear hp2
      go_upto_region 6 with fail
      go_cut [27] (fun t wr => t = .bool (noFrac l p2) ∧ Sc wr B bb a n c l (fracPos l p2) ∧ Only B w wr)
      case first =>
        go_wp2_with fail
        refine (skip_any hs3 46).mono ?_
        rintro e w4 ⟨rfl, hs4, hon4⟩
        have HO4 : Hid (Only B w w4) := HO.out.trans hon4
        clear hon4 hs3
        cases hz : skp l 46 p2 with
        | true =>
          rw [past_yes hz] at hs4
          obtain ⟨HA, HB⟩ := noFrac_dot hz
          go_wp2_with fail
          refine (digits_any hs4).mono ?_
          rintro e w5 ⟨rfl, hs5, hon5⟩
          have HO5 : Hid (Only B w w5) := HO4.out.trans hon5
          rw [← HB] at hs5 HA ⊢
          have q := HA.symm
          clear HA HB hon5 hs4
          generalize fracPos l p2 = p3 at *
          generalize noFrac l p2 = b1 at *
          go_wp2
          go_meet
          case rel => exact ⟨by rw [← q, show ((p2 + 1 : Nat) : Int) = (p2 : Int) + 1 from by omega], hs5, HO5.out⟩
        | false =>
          rw [past_no hz] at hs4
          have HA : Hid (noFrac l p2 = false) := (noFrac_no hz).1
          have HB : Hid (fracPos l p2 = p2) := (noFrac_no hz).2
          go_wp2
          go_meet
          case rel => exact ⟨by rw [HA.out], by rw [HB.out]; exact hs4, HO4.out⟩
      case rest =>
        obtain ⟨rfl, hs4, HO4⟩ := hcut
        clear hs3 HO
        have HO : Hid (Only B w wc) := HO4
        clear HO4
        cases hn2 : noFrac l p2 with
        | true =>
          have HR2 := HR.out
          rw [noFrac_none hn2] at HR2
          have HR3 : Hid (numAt l s = none) := HR2
          clear HR HR2
          go_wp2
          go_ret2
          rw [HR3.out]
          exact ⟨rfl, _, hs4, by simp, HO.out⟩
        | false =>
          have HR2 := HR.out
          rw [noFrac_some hn2] at HR2
          obtain ⟨p3, hp3⟩ : ∃ p3, fracPos l p2 = p3 := ⟨_, rfl⟩
          have HG3 : p2 ≤ p3 := by rw [← hp3]; exact fracPos_ge l p2
          rw [hp3] at hs4 HR2
          have HR3 : Hid (numAt l s = expEnd l p3) := HR2
          clear HR HR2 hp3
          go_upto_region 8 with fail
          go_cut [33] (fun t wr => t = .bool (isExp l p3) ∧ Sc wr B bb a n c l (expPos l p3) ∧ Only B w wr)
          case first =>
            go_wp2_with fail
            refine (skip_any hs4 101).mono ?_
            rintro e w5 ⟨rfl, hs5, hon5⟩
            have HO5 : Hid (Only B w w5) := HO.out.trans hon5
            clear hon5 hs4
            cases hz : skp l 101 p3 with
            | true =>
              rw [past_yes hz] at hs5
              have HA : Hid (isExp l p3 = true) := (isExp_e hz).1
              have HB : Hid (expPos l p3 = p3 + 1) := (isExp_e hz).2
              go_wp2
              go_meet
              case rel => exact ⟨by rw [HA.out], by rw [HB.out]; exact hs5, HO5.out⟩
            | false =>
              rw [past_no hz] at hs5
              have HA : Hid (isExp l p3 = skp l 69 p3) := (isExp_E hz).1
              have HB : Hid (expPos l p3 = past l 69 p3) := (isExp_E hz).2
              go_wp2_with fail
              refine (skip_any hs5 69).mono ?_
              rintro e w6 ⟨rfl, hs6, hon6⟩
              have HO6 : Hid (Only B w w6) := HO5.out.trans hon6
              clear hon6 hs5
              generalize skp l 69 p3 = b1 at *
              go_wp2
              go_meet
              case rel => exact ⟨by rw [HA.out], by rw [HB.out]; exact hs6, HO6.out⟩
          case rest =>
            obtain ⟨rfl, hs5, HO5⟩ := hcut
            clear hs4 HO
            have HO : Hid (Only B w wc) := HO5
            clear HO5
            cases hn3 : isExp l p3 with
            | false =>
              have HR4 : Hid (numAt l s = some p3) := HR3.out.trans (expEnd_no hn3).1
              rw [(expEnd_no hn3).2] at hs5
              have HS5 : Hid (Sc wc B bb a n c l p3) := hs5
              obtain ⟨c0, c1, fz, ad, lt, cell, ln, sm, cp, pl, rg⟩ := hs5
              have hsp : s < p3 := by have := past_ge l 45 s; have := he1.out; omega
              obtain rfl := ad (by omega)
              clear cell ad ln rg HR3
              go_wp2_with fail
              go_quiet (fail)
              go_wp2
              go_ret2
              rw [HR4.out]
              exact ⟨rfl, p3, HS5.out.drewN nq, fun x hx => Option.some.inj hx, HO.out.drewN nq⟩
            | true =>
              have HR4 := HR3.out.trans (expEnd_yes hn3).1
              rw [(expEnd_yes hn3).2] at hs5
              go_wp2_with fail
              refine (skip_any hs5 43).mono ?_
              rintro e w6 ⟨rfl, hs6, hon6⟩
              have HO6 : Hid (Only B w w6) := HO.out.trans hon6
              clear hon6 hs5
              have hgs := signEnd_ge l (p3 + 1)
              cases hz : skp l 43 (p3 + 1) with
              | true =>
                rw [past_yes hz, ← signEnd_plus hz] at hs6
                have HR5 : Hid (numAt l s = if noExp l (signEnd l (p3 + 1)) = true then none else some (stop isDg l (signEnd l (p3 + 1)))) := HR4
                clear HR4 HR3
                generalize signEnd l (p3 + 1) = sg at *
                have HR4 := HR5
                have hs8 := hs6
                have HO8 := HO6
                clear HR5 hs6 HO6
                go_wp2_with fail
                refine (digits_any hs8).mono ?_
                rintro e w9 ⟨rfl, hs9, hon9⟩
                have HO9 : Hid (Only B w w9) := HO8.out.trans hon9
                have q9 := noExp_eq l sg
                have hge9 := stop_ge isDg l sg
                clear hon9 hs8
                cases hn9 : noExp l sg with
                | true =>
                  rw [hn9] at q9
                  have HR9 : Hid (numAt l s = none) := by rw [HR4.out, hn9]; rfl
                  clear hn9 HR4 hge9
                  generalize stop isDg l sg = p6 at *
                  go_wp2
                  go_ret2
                  rw [HR9.out]
                  exact ⟨rfl, _, hs9, by simp, HO9.out⟩
                | false =>
                  rw [hn9] at q9
                  have HR9 : Hid (numAt l s = some (stop isDg l sg)) := by rw [HR4.out, hn9]; rfl
                  clear hn9 HR4
                  generalize stop isDg l sg = p6 at *
                  have HS9 : Hid (Sc w9 B bb a n c l p6) := hs9
                  obtain ⟨c0, c1, fz, ad, lt, cell, ln, sm, cp, pl, rg⟩ := hs9
                  have hsp : s < p6 := by have := past_ge l 45 s; have := he1.out; omega
                  obtain rfl := ad (by omega)
                  clear cell ad ln rg
                  go_wp2_with fail
                  go_quiet (fail)
                  go_wp2
                  go_ret2
                  rw [HR9.out]
                  exact ⟨rfl, p6, HS9.out.drewN nq, fun x hx => Option.some.inj hx, HO9.out.drewN nq⟩
              | false =>
                rw [past_no hz] at hs6
                go_wp2_with fail
                refine (skip_any hs6 45).mono ?_
                rintro e w7 ⟨rfl, hs8, hon7⟩
                have HO8 : Hid (Only B w w7) := HO6.out.trans hon7
                rw [← signEnd_else hz] at hs8
                have HR5 : Hid (numAt l s = if noExp l (signEnd l (p3 + 1)) = true then none else some (stop isDg l (signEnd l (p3 + 1)))) := HR4
                clear HR4 HR3 hs6 hon7
                generalize signEnd l (p3 + 1) = sg at *
                have HR4 := HR5
                clear HR5
                go_wp2_with fail
                refine (digits_any hs8).mono ?_
                rintro e w9 ⟨rfl, hs9, hon9⟩
                have HO9 : Hid (Only B w w9) := HO8.out.trans hon9
                have q9 := noExp_eq l sg
                have hge9 := stop_ge isDg l sg
                clear hon9 hs8
                cases hn9 : noExp l sg with
                | true =>
                  rw [hn9] at q9
                  have HR9 : Hid (numAt l s = none) := by rw [HR4.out, hn9]; rfl
                  clear hn9 HR4 hge9
                  generalize stop isDg l sg = p6 at *
                  go_wp2
                  go_ret2
                  rw [HR9.out]
                  exact ⟨rfl, _, hs9, by simp, HO9.out⟩
                | false =>
                  rw [hn9] at q9
                  have HR9 : Hid (numAt l s = some (stop isDg l sg)) := by rw [HR4.out, hn9]; rfl
                  clear hn9 HR4
                  generalize stop isDg l sg = p6 at *
                  have HS9 : Hid (Sc w9 B bb a n c l p6) := hs9
                  obtain ⟨c0, c1, fz, ad, lt, cell, ln, sm, cp, pl, rg⟩ := hs9
                  have hsp : s < p6 := by have := past_ge l 45 s; have := he1.out; omega
                  obtain rfl := ad (by omega)
                  clear cell ad ln rg
                  go_wp2_with fail
                  go_quiet (fail)
                  go_wp2
                  go_ret2
                  rw [HR9.out]
                  exact ⟨rfl, p6, HS9.out.drewN nq, fun x hx => Option.some.inj hx, HO9.out.drewN nq⟩
/-- 'number'. -/
theorem number_any {w : World} {B bb : Nat} {a : Option Addr} {n c : Nat} {l : List Int} {p : Nat} (hs : Sc w B bb a n c l p) :
    Calls Trym.prog 16 #[.pointer (some ⟨B, 0, none⟩)] w fun e w' =>
      e = .returned (numRet bb (stop isSp l p) c (numAt l (stop isSp l p))) ∧ ∃ q, Sc w' B bb a n c l q ∧ (∀ x, numAt l (stop isSp l p) = some x → q = x) ∧ Only B w w' :=
  number_at hs _ _ rfl rfl
end Go.Proofs.Qxb6001606aMods.ScanNumber
