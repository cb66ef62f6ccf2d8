/-
  THE WALK of the law 'FnWholeAgreesWithNumber'.
-/
import Derived.Test.Qxb6001606aModsLawPlain
namespace Go.Proofs.Qxb6001606aMods.LawWalk
open Go.RowKit ScanPlain ScanWorld ScanDoors ScanWord ScanWhole ScanNumber Clone LawPlain

/-- A slice of bytes that came in. -/
def In (w : World) (a0 : Option Addr) (len0 cap0 : Nat) (z0 : List Int) : Prop :=
  (a0 = none ∧ len0 = 0 ∧ cap0 = 0 ∧ z0 = []) ∨
      ∃ x, a0 = some x ∧ len0 ≤ cap0 ∧ cap0 ≤ maxLen ∧ z0.length = cap0 ∧ (∀ i, i < z0.length → w.cell? (x.add i) = some (.int .u8 (z0.getD i 0))) ∧ ∀ n ∈ z0, (Lit.int .u8 n).wf = true

theorem fx_ways (z : Int) : (isFx z = true ∧ z = 46) ∨ (isFx z = true ∧ z = 101) ∨ (isFx z = true ∧ z = 69) ∨ (isFx z = false ∧ (z == 46) = false ∧ (z == 101) = false ∧ (z == 69) = false) := by
  simp [isFx]; omega

set_option maxHeartbeats 400000 in
theorem law_big (w : World) (a0 : Option Addr) (len0 cap0 : Nat) (i init md : Int) (hm : len0 ≤ maxLen) (h : 1048576 < len0) :
    Calls Trym.prog 5 #[.slice a0 len0 cap0, .int .i64 i, .int .i64 init, .int .i64 md] w fun e w' => e = .returned (.bool true) ∧ Below w.heap.size w w' := by
  unfold maxLen at hm
  go_enter Trym.func5, Trym.ntmps5
  go_wp2
  go_ret
  exact ⟨rfl, Below.refl _ _⟩
set_option maxHeartbeats 400000 in
theorem law_neg (w : World) (a0 : Option Addr) (len0 cap0 : Nat) (i init md : Int) (h : len0 ≤ 1048576) (hi : i < 0) :
    Calls Trym.prog 5 #[.slice a0 len0 cap0, .int .i64 i, .int .i64 init, .int .i64 md] w fun e w' => e = .returned (.bool true) ∧ Below w.heap.size w w' := by
  go_enter Trym.func5, Trym.ntmps5
  go_wp2
  go_ret
  exact ⟨rfl, Below.refl _ _⟩
set_option maxHeartbeats 400000 in
theorem law_out (w : World) (a0 : Option Addr) (len0 cap0 : Nat) (i init md : Int) (h : len0 ≤ 1048576) (hi : 0 ≤ i) (ho : (len0 : Int) < i) :
    Calls Trym.prog 5 #[.slice a0 len0 cap0, .int .i64 i, .int .i64 init, .int .i64 md] w fun e w' => e = .returned (.bool true) ∧ Below w.heap.size w w' := by
  have q1 : decide (i < 0) = false := by simp; omega
  go_enter Trym.func5, Trym.ntmps5
  go_wp2
  go_ret
  exact ⟨rfl, Below.refl _ _⟩

set_option maxHeartbeats 1000000 in
theorem law_null (w : World) (a0 : Option Addr) (len0 cap0 : Nat) (z0 : List Int) (i : Nat) (init md : Int) (h : len0 ≤ 1048576) (hin : In w a0 len0 cap0 z0) (hi : i ≤ len0)
    (s : Nat) (he : Hid (stop isSp (z0.take len0) i = s)) (hnul : Hid (isNul (z0.take len0) s = true)) :
    Calls Trym.prog 5 #[.slice a0 len0 cap0, .int .i64 i, .int .i64 init, .int .i64 md] w fun e w' => e = .returned (.bool true) ∧ Below w.heap.size w w' := by
  have HIN : Hid (In w a0 len0 cap0 z0) := hin
  clear hin
  have q1 : decide ((i : Int) < 0) = false := by simp
  have q2 : decide ((len0 : Int) < (i : Int)) = false := by simp; omega
  go_enter Trym.func5, Trym.ntmps5
  go_wp2_with (go_at_call 13; go_in)
  refine (clone_any w a0 len0 cap0 z0 h HIN.out).mono ?_
  rintro e1 w1 ⟨bb, a, c, rfl, hr, hb⟩
  have HB : Hid (Below w.heap.size w w1) := hb
  have HR : Hid (Row w1 bb a len0 c (z0.take len0)) := hr
  clear hb hr HIN
  generalize z0.take len0 = l at *
  go_wp2_with fail
  refine (zzwhole_null HR.out hi s he init md hnul).mono ?_
  rintro e2 w2 ⟨rfl, hb2⟩
  have HB2 : Hid (Below w.heap.size w w2) := HB.out.trans (hb2.mono HB.out.size)
  have HR2 : Hid (Row w2 bb a len0 c l) := HR.out.below hb2
  have hs4 : s + 4 ≤ len0 := by
    have := hnul.out
    simp only [isNul, decide_eq_true_eq] at this
    have := HR.out.ln
    omega
  obtain rfl := HR.out.ad (by omega)
  clear hb2 HB HR
  go_wp2_with fail
  go_loop [12] (fun j => ∃ k : Nat, j = .int .i64 k ∧ k ≤ len0 ∧ stop isSp l k = s) (fun j => len0 - (intOf j).toNat)
  case atStart => exact ⟨i, rfl, hi, he.out⟩
  case round =>
    obtain ⟨k, rfl, hk, hst⟩ := hrel
    by_cases hlt : k < len0
    · have HST : Hid (stop isSp l k = s) := hst
      clear hst

      have ck := HR2.out.cell k hlt
      have hln := HR2.out.ln
      have q3 : (k : Int) < (len0 : Int) := by omega
      cases hsp : isSp (gt l k) with
      | true =>
        have HST2 : Hid (stop isSp l (k + 1) = s) := by
          show stop isSp l (k + 1) = s
          rw [← HST.out]; exact (stop_step isSp l k (by omega) hsp).symm
        clear hln HST
        generalize gt l k = y at *
        go_wp2_with (go_at_call 9; refine (isSpace_any _ _).mono ?_; rintro e w' ⟨rfl, rfl⟩)
        go_round
        case rel => exact ⟨k + 1, by go_num, by omega, HST2.out⟩
        case measure => simp [intOf]; omega
      | false =>
        have hks : k = s := by rw [← HST.out]; exact (stop_here isSp l k (by omega) hsp).symm
        subst hks
        clear hln HST
        obtain ⟨y, hy⟩ : ∃ y, y = gt l k := ⟨_, rfl⟩
        rw [← hy] at ck hsp
        have HY : Hid (y = gt l k) := hy
        clear hy
        go_wp2_with (go_at_call 9; refine (isSpace_any _ _).mono ?_; rintro e w' ⟨rfl, rfl⟩)
        have hn : isNul l k = true := hnul.out
        go_wp2_with fail
        refine (isNull_any HR2.out k hk).mono ?_
        rintro e3 w' ⟨rfl, rfl⟩
        go_wp2
        go_ret
        exact ⟨rfl, HB2.out⟩
    · exfalso
      rw [stop_out isSp l k (by rw [HR2.out.ln]; omega)] at hst
      omega
set_option maxHeartbeats 1000000 in
theorem law_none (w : World) (a0 : Option Addr) (len0 cap0 : Nat) (z0 : List Int) (i : Nat) (init md : Int) (h : len0 ≤ 1048576) (hin : In w a0 len0 cap0 z0) (hi : i ≤ len0)
    (s : Nat) (he : Hid (stop isSp (z0.take len0) i = s)) (hnul : Hid (isNul (z0.take len0) s = false)) (hnum : Hid (numAt (z0.take len0) s = none)) :
    Calls Trym.prog 5 #[.slice a0 len0 cap0, .int .i64 i, .int .i64 init, .int .i64 md] w fun e w' => e = .returned (.bool true) ∧ Below w.heap.size w w' := by
  have HIN : Hid (In w a0 len0 cap0 z0) := hin
  clear hin
  have q1 : decide ((i : Int) < 0) = false := by simp
  have q2 : decide ((len0 : Int) < (i : Int)) = false := by simp; omega
  go_enter Trym.func5, Trym.ntmps5
  go_wp2_with (go_at_call 13; go_in)
  refine (clone_any w a0 len0 cap0 z0 h HIN.out).mono ?_
  rintro e1 w1 ⟨bb, a, c, rfl, hr, hb⟩
  have HB : Hid (Below w.heap.size w w1) := hb
  have HR : Hid (Row w1 bb a len0 c (z0.take len0)) := hr
  clear hb hr HIN
  generalize z0.take len0 = l at *
  go_wp2_with fail
  refine (zzwhole_none HR.out hi s he init md hnul hnum).mono ?_
  rintro e2 w2 ⟨q0, rfl, hb2⟩
  have HB2 : Hid (Below w.heap.size w w2) := HB.out.trans (hb2.mono HB.out.size)
  have HR2 : Hid (Row w2 bb a len0 c l) := HR.out.below hb2
  clear hb2 HB HR
  go_wp2_with fail
  go_loop [12] (fun j => ∃ k : Nat, j = .int .i64 k ∧ k ≤ len0 ∧ stop isSp l k = s) (fun j => len0 - (intOf j).toNat)
  case atStart => exact ⟨i, rfl, hi, he.out⟩
  case round =>
    obtain ⟨k, rfl, hk, hst⟩ := hrel
    by_cases hlt : k < len0
    · have HST : Hid (stop isSp l k = s) := hst
      clear hst
      obtain rfl := HR2.out.ad (by omega)
      have ck := HR2.out.cell k hlt
      have hln := HR2.out.ln
      have q3 : (k : Int) < (len0 : Int) := by omega
      cases hsp : isSp (gt l k) with
      | true =>
        have HST2 : Hid (stop isSp l (k + 1) = s) := by
          show stop isSp l (k + 1) = s
          rw [← HST.out]; exact (stop_step isSp l k (by omega) hsp).symm
        clear hln HST
        generalize gt l k = y at *
        go_wp2_with (go_at_call 9; refine (isSpace_any _ _).mono ?_; rintro e w' ⟨rfl, rfl⟩)
        go_round
        case rel => exact ⟨k + 1, by go_num, by omega, HST2.out⟩
        case measure => simp [intOf]; omega
      | false =>
        have hks : k = s := by rw [← HST.out]; exact (stop_here isSp l k (by omega) hsp).symm
        subst hks
        clear hln HST
        obtain ⟨y, hy⟩ : ∃ y, y = gt l k := ⟨_, rfl⟩
        rw [← hy] at ck hsp
        have HY : Hid (y = gt l k) := hy
        clear hy
        go_wp2_with (go_at_call 9; refine (isSpace_any _ _).mono ?_; rintro e w' ⟨rfl, rfl⟩)
        have hn : isNul l k = false := hnul.out
        go_wp2_with fail
        refine (isNull_any HR2.out k hk).mono ?_
        rintro e3 w' ⟨rfl, rfl⟩
        go_wp2_with fail
        refine (zznum_none HR2.out hi k he hnum).mono ?_
        rintro e4 w3 ⟨q4, rfl, hb3⟩
        have HB3 : Hid (Below w.heap.size w w3) := HB2.out.trans (hb3.mono HB2.out.size)
        clear hb3
        go_wp2
        go_ret
        exact ⟨rfl, HB3.out⟩
    · have hks : k = s := by rw [← hst]; exact (stop_out isSp l k (by rw [HR2.out.ln]; omega)).symm
      subst hks
      clear hst
      have q5 : decide ((k : Int) < (len0 : Int)) = false := by simp; omega
      have hn : isNul l k = false := hnul.out
      go_wp2_with fail
      refine (isNull_any HR2.out k hk).mono ?_
      rintro e3 w' ⟨rfl, rfl⟩
      go_wp2_with fail
      refine (zznum_none HR2.out hi k he hnum).mono ?_
      rintro e4 w3 ⟨q4, rfl, hb3⟩
      have HB3 : Hid (Below w.heap.size w w3) := HB2.out.trans (hb3.mono HB2.out.size)
      clear hb3
      go_wp2
      go_ret
      exact ⟨rfl, HB3.out⟩
set_option maxHeartbeats 3000000 in
theorem law_some (w : World) (a0 : Option Addr) (len0 cap0 : Nat) (z0 : List Int) (i : Nat) (init md : Int) (h : len0 ≤ 1048576) (hin : In w a0 len0 cap0 z0) (hi : i ≤ len0)
    (s : Nat) (he : Hid (stop isSp (z0.take len0) i = s)) (e : Nat) (hnul : Hid (isNul (z0.take len0) s = false)) (hnum : Hid (numAt (z0.take len0) s = some e)) (ok : Bool) (hok : Hid (okD (z0.take len0) s e md = ok)) :
    Calls Trym.prog 5 #[.slice a0 len0 cap0, .int .i64 i, .int .i64 init, .int .i64 md] w fun e w' => e = .returned (.bool true) ∧ Below w.heap.size w w' := by
  have HIN : Hid (In w a0 len0 cap0 z0) := hin
  clear hin
  have q1 : decide ((i : Int) < 0) = false := by simp
  have q2 : decide ((len0 : Int) < (i : Int)) = false := by simp; omega
  go_enter Trym.func5, Trym.ntmps5
  go_wp2_with (go_at_call 13; go_in)
  refine (clone_any w a0 len0 cap0 z0 h HIN.out).mono ?_
  rintro e1 w1 ⟨bb, a, c, rfl, hr, hb⟩
  have HB : Hid (Below w.heap.size w w1) := hb
  have HR : Hid (Row w1 bb a len0 c (z0.take len0)) := hr
  clear hb hr HIN
  generalize z0.take len0 = l at *
  go_wp2_with fail
  refine (zzwhole_some HR.out hi s e he init md hnul hnum ok hok).mono ?_
  rintro e2 w2 ⟨v, rfl, hb2, hv1, hv2⟩
  have HV1 : Hid (ok = false → v = init) := hv1
  have HV2 : Hid (ok = true → short l s e → signOk l s v) := hv2
  clear hv1 hv2
  have HB2 : Hid (Below w.heap.size w w2) := HB.out.trans (hb2.mono HB.out.size)
  have HR2 : Hid (Row w2 bb a len0 c l) := HR.out.below hb2
  have hsl : s ≤ l.length := by rw [← he.out]; exact stop_le _ _ _ (by rw [HR.out.ln]; exact hi)
  obtain ⟨p1, p2, g1, g2, g3, g4, g5, g6⟩ := numAt_some hnum.out hsl
  have hse : s < e := by omega
  have hel : e ≤ len0 := by rw [← HR.out.ln]; exact g4
  have HFX : Hid (dgTo l (past l 45 s) e = !fxn l s (e - s)) := fx_dgTo hnum.out hsl
  clear g1 g2 g3 g4 g5 g6 hsl
  have hcp := HR.out.cp
  obtain rfl := HR.out.ad (by omega)
  clear hb2 HB HR
  go_wp2_with fail
  go_loop [12] (fun j => ∃ k : Nat, j = .int .i64 k ∧ k ≤ len0 ∧ stop isSp l k = s) (fun j => len0 - (intOf j).toNat)
  case atStart => exact ⟨i, rfl, hi, he.out⟩
  case round =>
    obtain ⟨k, rfl, hk, hst⟩ := hrel
    by_cases hlt : k < len0
    · have HST : Hid (stop isSp l k = s) := hst
      clear hst

      have ck := HR2.out.cell k hlt
      have hln := HR2.out.ln
      have q3 : (k : Int) < (len0 : Int) := by omega
      cases hsp : isSp (gt l k) with
      | true =>
        have HST2 : Hid (stop isSp l (k + 1) = s) := by
          show stop isSp l (k + 1) = s
          rw [← HST.out]; exact (stop_step isSp l k (by omega) hsp).symm
        clear hln HST
        generalize gt l k = y at *
        go_wp2_with (go_at_call 9; refine (isSpace_any _ _).mono ?_; rintro e w' ⟨rfl, rfl⟩)
        go_round
        case rel => exact ⟨k + 1, by go_num, by omega, HST2.out⟩
        case measure => simp [intOf]; omega
      | false =>
        have hks : k = s := by rw [← HST.out]; exact (stop_here isSp l k (by omega) hsp).symm
        subst hks
        clear hln HST
        obtain ⟨y, hy⟩ : ∃ y, y = gt l k := ⟨_, rfl⟩
        rw [← hy] at ck hsp
        have HY : Hid (y = gt l k) := hy
        clear hy
        go_wp2_with (go_at_call 9; refine (isSpace_any _ _).mono ?_; rintro e w' ⟨rfl, rfl⟩)
        have hn : isNul l k = false := hnul.out
        go_wp2_with fail
        refine (isNull_any HR2.out k hk).mono ?_
        rintro e3 w' ⟨rfl, rfl⟩
        go_wp2_with fail
        refine (zznum_some HR2.out hi k e he hnum).mono ?_
        rintro e4 w3 ⟨rfl, hb3⟩
        have HB3 : Hid (Below w.heap.size w w3) := HB2.out.trans (hb3.mono HB2.out.size)
        have HR3 : Hid (Row w3 bb (some ⟨bb, 0, none⟩) len0 c l) := HR2.out.below hb3
        have ck3 := HR3.out.cell k hlt
        rw [← HY.out] at ck3
        clear hb3 ck HB2 HR2 hn
        go_wp2
        go_loop [16, 17] (fun t j => ∃ m : Nat, j = .int .i64 m ∧ m ≤ e - k ∧ t = .bool (fxn l k m)) (fun _ j => (e - k) - (intOf j).toNat)
        case atStart => exact ⟨0, rfl, Nat.zero_le _, rfl⟩
        case round =>
          obtain ⟨m, rfl, hm, rfl⟩ := hrel
          by_cases hlt2 : m < e - k
          · have cm := HR3.out.cell (k + m) (by omega)
            have hw := fx_ways (gt l (k + m))
            obtain ⟨z, hz⟩ : ∃ z, z = gt l (k + m) := ⟨_, rfl⟩
            rw [← hz] at cm hw
            have HZ : Hid (fxn l k (m + 1) = (fxn l k m || isFx z)) := by rw [hz]; rfl
            clear hz
            obtain ⟨b0, hb0⟩ : ∃ b0, fxn l k m = b0 := ⟨_, rfl⟩
            rw [hb0] at HZ ⊢
            clear hb0
            rcases hw with ⟨h0, rfl⟩ | ⟨h0, rfl⟩ | ⟨h0, rfl⟩ | ⟨h0, h1, h2, h3⟩
            iterate 3
              · have H0 : Hid (isFx _ = true) := h0
                clear h0
                go_wp2
                go_round
                case rel => exact ⟨m + 1, by go_num, by omega, by rw [HZ.out, H0.out, Bool.or_true]⟩
                case measure => simp [intOf]; omega
            · have H0 : Hid (isFx z = false) := h0
              clear h0
              go_wp2
              go_round
              case rel => exact ⟨m + 1, by go_num, by omega, by rw [HZ.out, H0.out, Bool.or_false]⟩
              case measure => simp [intOf]; omega
          · obtain rfl : m = e - k := by omega
            clear hm hlt2
            cases hfx : fxn l k (e - k) with
            | true =>
              have hokf : ok = false := by
                have := HFX.out
                rw [hfx] at this
                rw [← hok.out, okD, this]
                exact Bool.and_false _
              have hvi := HV1.out hokf
              subst hokf
              subst hvi
              clear HV1 HV2 hok HFX
              by_cases hy45 : y = 45
              · subst hy45
                go_wp2
                go_ret
                exact ⟨rfl, HB3.out⟩
              · have q6 : (y == 45) = false := by simpa using hy45
                clear hy45
                go_wp2
                go_ret
                exact ⟨rfl, HB3.out⟩
            | false =>
              have hdg : dgTo l (past l 45 k) e = true := by have := HFX.out; rw [hfx] at this; exact this
              have hke : k < l.length := by rw [HR3.out.ln]; omega
              cases hsk : skp l 45 k with
              | true =>
                have hpa : past l 45 k = k + 1 := past_yes hsk
                have hy45 : y = 45 := HY.out.trans (skp_eq hsk)
                subst hy45
                by_cases hmd : ((e - k : Nat) : Int) - 1 ≤ md
                · have hokt : ok = true := by
                    rw [← hok.out, okD, hdg, hpa]
                    simp only [Bool.and_true, decide_eq_true_eq]
                    omega
                  subst hokt
                  have hsg : ((e - k : Nat) : Int) - 1 ≤ 18 → v ≤ 0 := fun h18 => (HV2.out rfl (by unfold short; rw [hpa]; omega)).1 hsk
                  have q7 : decide (md < ((e - k : Nat) : Int) - 1) = false := by simp; omega
                  clear HV1 HV2 hok HFX hdg hke hsk hpa HY
                  by_cases h18 : ((e - k : Nat) : Int) - 1 ≤ 18
                  · have hv := hsg h18
                    have q8 : decide (0 < v) = false := by simp; omega
                    clear hsg
                    by_cases hv0 : v < 0
                    · go_wp2
                      go_ret
                      exact ⟨rfl, HB3.out⟩
                    · have q9 : decide (v < 0) = false := by simp; omega
                      go_wp2
                      go_ret
                      exact ⟨rfl, HB3.out⟩
                  · clear hsg
                    go_wp2
                    go_ret
                    exact ⟨rfl, HB3.out⟩
                · have hokf : ok = false := by
                    rw [← hok.out, okD, hdg, hpa]
                    simp only [Bool.and_true, decide_eq_false_iff_not]
                    omega
                  have hvi := HV1.out hokf
                  subst hokf
                  subst hvi
                  have q7 : decide (md < ((e - k : Nat) : Int) - 1) = true := by simp; omega
                  clear HV1 HV2 hok HFX hdg hke hsk hpa HY
                  go_wp2
                  go_ret
                  exact ⟨rfl, HB3.out⟩
              | false =>
                have hpa : past l 45 k = k := past_no hsk
                have hy45 : y ≠ 45 := by
                  intro h45
                  rw [(skp_iff l 45 k).2 ⟨hke, by rw [← HY.out]; exact h45⟩] at hsk
                  exact absurd hsk (by decide)
                have q6 : (y == 45) = false := by simpa using hy45
                by_cases hmd : ((e - k : Nat) : Int) ≤ md
                · have hokt : ok = true := by
                    rw [← hok.out, okD, hdg, hpa]
                    simp only [Bool.and_true, decide_eq_true_eq]
                    exact hmd
                  subst hokt
                  have hsg : ((e - k : Nat) : Int) ≤ 18 → 0 ≤ v := fun h18 => (HV2.out rfl (by unfold short; rw [hpa]; omega)).2 hsk
                  have q7 : decide (md < ((e - k : Nat) : Int)) = false := by simp; omega
                  clear HV1 HV2 hok HFX hdg hke hsk hpa HY hy45
                  by_cases h18 : ((e - k : Nat) : Int) ≤ 18
                  · have hv := hsg h18
                    have q8 : decide (v < 0) = false := by simp; omega
                    clear hsg
                    by_cases hv0 : 0 < v
                    · go_wp2
                      go_ret
                      exact ⟨rfl, HB3.out⟩
                    · have q9 : decide (0 < v) = false := by simp; omega
                      go_wp2
                      go_ret
                      exact ⟨rfl, HB3.out⟩
                  · clear hsg
                    go_wp2
                    go_ret
                    exact ⟨rfl, HB3.out⟩
                · have hokf : ok = false := by
                    rw [← hok.out, okD, hdg, hpa]
                    simp only [Bool.and_true, decide_eq_false_iff_not]
                    exact hmd
                  have hvi := HV1.out hokf
                  subst hokf
                  subst hvi
                  have q7 : decide (md < ((e - k : Nat) : Int)) = true := by simp; omega
                  clear HV1 HV2 hok HFX hdg hke hsk hpa HY hy45
                  go_wp2
                  go_ret
                  exact ⟨rfl, HB3.out⟩
    · exfalso
      rw [stop_out isSp l k (by rw [HR2.out.ln]; omega)] at hst
      omega

/-- THE LAW, at every input. -/
theorem law_any (w : World) (a0 : Option Addr) (len0 cap0 : Nat) (z0 : List Int) (i init md : Int) (hin : In w a0 len0 cap0 z0) :
    Calls Trym.prog 5 #[.slice a0 len0 cap0, .int .i64 i, .int .i64 init, .int .i64 md] w fun e w' => e = .returned (.bool true) ∧ Below w.heap.size w w' := by
  have hm : len0 ≤ maxLen := by
    rcases hin with ⟨_, rfl, _, _⟩ | ⟨_, _, h1, h2, _⟩
    · exact Nat.zero_le _
    · omega
  by_cases hb : 1048576 < len0
  · exact law_big w a0 len0 cap0 i init md hm hb
  · by_cases hi : i < 0
    · exact law_neg w a0 len0 cap0 i init md (by omega) hi
    · by_cases ho : (len0 : Int) < i
      · exact law_out w a0 len0 cap0 i init md (by omega) (by omega) ho
      · obtain ⟨j, rfl⟩ := Int.eq_ofNat_of_zero_le (by omega : 0 ≤ i)
        cases hnul : isNul (z0.take len0) (stop isSp (z0.take len0) j) with
        | true => exact law_null w a0 len0 cap0 z0 j init md (by omega) hin (by omega) _ rfl hnul
        | false =>
          cases hnum : numAt (z0.take len0) (stop isSp (z0.take len0) j) with
          | none => exact law_none w a0 len0 cap0 z0 j init md (by omega) hin (by omega) _ rfl hnul hnum
          | some e => exact law_some w a0 len0 cap0 z0 j init md (by omega) hin (by omega) _ rfl e hnul hnum _ rfl
end Go.Proofs.Qxb6001606aMods.LawWalk
