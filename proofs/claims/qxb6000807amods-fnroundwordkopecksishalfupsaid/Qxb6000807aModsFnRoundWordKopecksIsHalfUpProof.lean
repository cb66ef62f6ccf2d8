/-
  A PROOF OF 'Rows.FnRoundWordKopecksIsHalfUpSaid'. The frame was written by program (proof-skeleton.mjs); the walk is the prover's.
-/
import Derived.Test.Qxb6000807aModsWordWalk
import Derived.WalkKit
import Derived.ProofKit
import Derived.OpenShut
import Derived.ShutString
namespace Go.Proofs.Qxb6000807aMods.fnRoundWordKopecksIsHalfUp
open WordPlain WordWalk
open Go.ChangeShapes Go.WideShapes Go.ChangeAt Go.RowKit
open Go.ChangeMaps (open_string shut_string)
set_option linter.unusedVariables false      -- a walk need not use every 'w<i>' (that an integer argument fits its kind)

theorem own : ownKnob Trym.prog.godebug = none := by kernel_rfl

/-! ### STEP 1: THE WALK: the Go text returns true. 'Grown w w'': the world has at most new blocks (Derived/RowKit3.lean). Part the cases AHEAD of 'go_enter' where a test parts the walk; each callee by a contract of its own. -/
theorem grown_drewN {W w : World} (h : Grown W w) (n : Nat) : Grown W (w.drewN n) := h

set_option maxHeartbeats 800000 in
/-- In the domain. -/
theorem walk_in (n d r : Int) (w : World) (hn : 0 ≤ n) (hn2 : n ≤ 9223372036854775807) (hd : 1 ≤ d) (hd2 : d ≤ 9223372036854775808) (hr : Hid (rnd n d = r)) (hr1 : 0 ≤ r) (hr2 : r ≤ 9223372036854775807) :
    Calls Trym.prog 3 #[.int .u64 n, .int .u64 d] w fun e w' => e = .returned (.bool true) ∧ Grown w w' := by
  have hdm : dom n d = true := by simp only [dom, decide_eq_true_eq]; omega
  obtain ⟨half1, half2⟩ := rnd_half n d hd
  rw [hr.out] at half1 half2
  obtain ⟨AH, AL, ea, a1, a2⟩ : ∃ AH AL : Int, AH * 18446744073709551616 + AL = n * 2 + d ∧ 0 ≤ AL ∧ AL < 18446744073709551616 := ⟨(n * 2 + d) / 18446744073709551616, (n * 2 + d) % 18446744073709551616, by omega, by omega, by omega⟩
  obtain ⟨m1, m2, m3, m4, m5⟩ := mul_plain r d hr1 (by omega) (by omega) (by omega)
  obtain ⟨k1, k2, k3, k4, k5⟩ := mul_plain (r + 1) d (by omega) (by omega) (by omega) (by omega)
  obtain ⟨H1, hH1⟩ : ∃ x, rawHi r d = x := ⟨_, rfl⟩
  obtain ⟨L1, hL1⟩ : ∃ x, rawLo r d = x := ⟨_, rfl⟩
  obtain ⟨U1, hU1⟩ : ∃ x, rawHi (r + 1) d = x := ⟨_, rfl⟩
  obtain ⟨V1, hV1⟩ : ∃ x, rawLo (r + 1) d = x := ⟨_, rfl⟩
  rw [hH1, hL1] at m1
  rw [hL1] at m2 m3
  rw [hH1] at m4 m5
  rw [hU1, hV1] at k1
  rw [hV1] at k2 k3
  rw [hU1] at k4 k5
  have erd : (r + 1) * d = r * d + d := by rw [Int.add_mul, Int.one_mul]
  rw [← m1] at half1
  rw [← k1] at half2
  rw [erd, ← m1] at k1
  obtain ⟨s1, s2, s3⟩ := shl_plain H1 L1 m4 (by omega) m2 m3
  obtain ⟨t1, t2, t3⟩ := shl_plain U1 V1 k4 (by omega) k2 k3
  obtain ⟨H2, hH2⟩ : ∃ x, rawSh H1 L1 = x := ⟨_, rfl⟩
  obtain ⟨L2, hL2⟩ : ∃ x, rawSl L1 = x := ⟨_, rfl⟩
  obtain ⟨U2, hU2⟩ : ∃ x, rawSh U1 V1 = x := ⟨_, rfl⟩
  obtain ⟨V2, hV2⟩ : ∃ x, rawSl V1 = x := ⟨_, rfl⟩
  rw [hH2, hL2] at s1
  rw [hL2] at s2 s3
  rw [hU2, hV2] at t1
  rw [hV2] at t2 t3
  have b1 : leq H2 L2 AH AL = true := (leq_iff H2 L2 AH AL s2 s3 a1 a2).2 (by omega)
  have b2 : leq U2 V2 AH AL = false := by
    rw [← Bool.not_eq_true, leq_iff U2 V2 AH AL t2 t3 a1 a2]; omega
  have XH1 : Hid (rawHi r d = H1) := hH1
  have XL1 : Hid (rawLo r d = L1) := hL1
  have XU1 : Hid (rawHi (r + 1) d = U1) := hU1
  have XV1 : Hid (rawLo (r + 1) d = V1) := hV1
  have XH2 : Hid (rawSh H1 L1 = H2) := hH2
  have XL2 : Hid (rawSl L1 = L2) := hL2
  have XU2 : Hid (rawSh U1 V1 = U2) := hU2
  have XV2 : Hid (rawSl V1 = V2) := hV2
  have XEA : Hid (AH * 18446744073709551616 + AL = n * 2 + d) := ea
  have XA1 : Hid (0 ≤ AL) := a1
  have XA2 : Hid (AL < 18446744073709551616) := a2
  clear hH1 hL1 hU1 hV1 hH2 hL2 hU2 hV2 ea a1 a2 m1 m2 m3 m4 m5 k1 k2 k3 k4 k5 s1 s2 s3 t1 t2 t3 half1 half2 erd
  go_enter Trym.func3, Trym.ntmps3
  go_wp2_with (first | (go_at_call 8; refine (dom_any n d _).mono ?_; rintro e w' ⟨rfl, rfl⟩) | (go_at_call 9; refine (zzround_any n d r _ hn hn2 hd hd2 hr).mono ?_; rintro e w' ⟨rfl, m, rfl⟩))
  refine (add_any (n * 2) d AH AL (by omega) (by omega) (by omega) (by omega) XEA XA1 XA2 _).mono ?_
  rintro e w2 ⟨rfl, rfl⟩
  go_wp2_with fail
  refine (mul_any r d H1 L1 XH1 XL1 _).mono ?_
  rintro e w2 ⟨rfl, rfl⟩
  go_wp2_with fail
  refine (shl_any H1 L1 H2 L2 XH2 XL2 _).mono ?_
  rintro e w2 ⟨rfl, rfl⟩
  go_wp2_with fail
  refine (leq_any H2 L2 AH AL _).mono ?_
  rintro e w2 ⟨rfl, rfl⟩
  go_wp2_with fail
  refine (mul_any (r + 1) d U1 V1 XU1 XV1 _).mono ?_
  rintro e w2 ⟨rfl, rfl⟩
  go_wp2_with fail
  refine (shl_any U1 V1 U2 V2 XU2 XV2 _).mono ?_
  rintro e w2 ⟨rfl, rfl⟩
  go_wp2_with fail
  refine (leq_any U2 V2 AH AL _).mono ?_
  rintro e w2 ⟨rfl, rfl⟩
  go_wp2
  go_ret
  exact ⟨rfl, grown_drewN (Grown.refl _) _⟩

theorem walk (a0 : Int) (a1 : Int) (w0 : (Lit.int .u64 a0).wf = true) (w1 : (Lit.int .u64 a1).wf = true) (w : World) :
    Calls Trym.prog 3 #[.int .u64 a0, .int .u64 a1] w fun e w' => e = .returned (.bool true) ∧ Grown w w' := by
  have b0 := bounds_u64 w0
  have b1 := bounds_u64 w1
  cases hdm : dom a0 a1 with
  | true =>
    have hd := hdm
    simp only [dom, decide_eq_true_eq] at hd
    obtain ⟨h1, h2⟩ := rnd_bd a0 a1 (by omega) (by omega) (by omega)
    exact walk_in a0 a1 (rnd a0 a1) w (by omega) (by omega) (by omega) (by omega) rfl h1 h2
  | false =>
    clear b0 b1 w0 w1
    go_enter Trym.func3, Trym.ntmps3
    go_wp2_with (go_at_call 8; refine (dom_any a0 a1 _).mono ?_; rintro e w' ⟨rfl, rfl⟩)
    go_ret
    exact ⟨rfl, Grown.refl _⟩

/-! ### THE ROW's STEP: WRITTEN OUT: LEAVE IT -/
set_option maxRecDepth 100000 in
theorem lifted (os : Os) (started : os.Started) (H : Type) (enc : TypeId × Value → H) :
    ReturnsInHanded {} Trym.checked os 3 .any (Rows.fnRoundWordKopecksIsHalfUpSpec.pre6 enc Trym.prog Trym.f3 Rows.fnRoundWordKopecksIsHalfUpRow.domain false) (Rows.fnRoundWordKopecksIsHalfUpSpec.post enc Trym.prog Trym.f3 false true false false) := by
  refine returnsInHanded_of_change (C := Trym.checked) own started (by kernel_rfl) Trym.func3
    (ChangeSpec.witness6 (enc := enc) (C := Trym.checked) false ⟨#[], #[.int .u64 0, .int .u64 0], []⟩ 8 (by kernel_rfl) (by kernel_rfl) (by kernel_rfl) (by kernel_rfl)) ?_
  intro W base args ds gs before hval0 hW hcnd _
  have hval : ∀ (j : Nat) t v, Trym.f3.params[j]? = some t → args[j]? = some v → Value.okWide Trym.prog W .any base t v := hval0
  have hW' := hW
  obtain ⟨p, q, hA0, hV, rfl, hfz, hnd⟩ := hW
  have hA : DataW.TrodAll enc Trym.prog W 0 (fun _ => true) true Trym.f3.params.toList args.toList ds p := hA0
  rw [Trym.params3] at hA hval
  obtain ⟨v0, vs0, d0, ds0, p0, q0, hargs, rfl, rfl, h0, r0⟩ := trodAll_cons hA
  obtain ⟨v1, vs1, d1, ds1, p1, q1, rfl, rfl, rfl, h1, r1⟩ := trodAll_cons r0
  obtain ⟨rfl, rfl, rfl⟩ := trodAll_nil r1
  obtain rfl : args = #[v0, v1] := by cases args; simp_all
  obtain ⟨rfl, rfl⟩ := trodVars_none hV
  obtain ⟨a0, rfl, rfl, rfl, w0⟩ := open_int Trym.underlying22 (hval 0 22 v0 rfl rfl) h0
  obtain ⟨a1, rfl, rfl, rfl, w1⟩ := open_int Trym.underlying22 (hval 1 22 v1 rfl rfl) h1
  clear hA0 hval0
  simp only [List.append_nil] at hW'
  refine (walk a0 a1 w0 w1 W).mono fun e W' ⟨he, hg⟩ => ?_
  subst he
  exact ⟨_, rfl, post_of_same (pa := []) (pv := []) hW' (fun _ _ _ => (trodAll_cons_mk (shut_bool Trym.underlying4 _) trodAll_mk0)) (fun sp _ => (trodAll_cons_mk (shut_int Trym.underlying22 w0) (trodAll_cons_mk (shut_int Trym.underlying22 w1) trodAll_mk0))) (fun _ _ => rfl) rfl
    (hg.frame _) hg.2.1 (ok_one (by kernel_rfl) rfl (okWide_bool_mk Trym.underlying4 _))⟩

theorem over : Rows.fnRoundWordKopecksIsHalfUpRow.holds Trym.pinned (OpenSpec.ofChange Rows.fnRoundWordKopecksIsHalfUpSpec) :=
  OpenClaim.holds_of_wide 3 Trym.f3 rfl rfl rfl rfl rfl rfl rfl ⟨rfl, rfl, rfl, rfl, rfl⟩ rfl rfl rfl rfl rfl (by kernel_rfl) Trym.func3 (by kernel_rfl)
    (of_decide_eq_true (by kernel_rfl)) (by unfold Func.isWrapper; first | (rw [if_pos (by decide +kernel)]; kernel_rfl) | (rw [if_neg (by decide +kernel)]; exact ⟨rfl, rfl⟩))
    (fun os started H enc _ => lifted os started H enc)

/-- ████ THE STATEMENT ████ -/
theorem proved : Rows.FnRoundWordKopecksIsHalfUpSaid :=
  over
end Go.Proofs.Qxb6000807aMods.fnRoundWordKopecksIsHalfUp
