/-
  A PROOF OF 'Rows.FnCutTagInvertsJoinSaid'. The frame was written by program (proof-skeleton.mjs); the walk is the prover's.
-/
import Derived.Test.Qxb6001609aModsTagWalk
import Derived.Test.Qxb6001609aModsLinePlain
import Derived.WalkKit
import Derived.ProofKit
import Derived.OpenShut
import Derived.ShutString
namespace Go.Proofs.Qxb6001609aMods.fnCutTagInvertsJoin
open TagWalk LinePlain
open Go.ChangeShapes Go.WideShapes Go.ChangeAt Go.RowKit
open Go.ChangeMaps (open_string shut_string)
set_option linter.unusedVariables false      -- a walk need not use every 'w<i>' (that an integer argument fits its kind)

theorem own : ownKnob Trym.prog.godebug = none := by kernel_rfl

/-! ### STEP 1: THE WALK: the Go text returns true. 'Grown w w'': the world has at most new blocks (Derived/RowKit3.lean). Part the cases AHEAD of 'go_enter' where a test parts the walk; each callee by a contract of its own. -/
theorem grown_drewN {W w : World} (h : Grown W w) (n : Nat) : Grown W (w.drewN n) := h
theorem grown_iter {W w : World} (h : Grown W w) (s : ByteArray) (p : Nat) : Grown W (w.iter s p) := by
  refine ⟨World.keptBut_trans h.1 (World.keptBut_alloc _ _ _), fun a => ?_, Nat.le_trans h.2.2 (by show w.heap.size ≤ (w.heap.push _).size; simp)⟩
  refine Eq.trans ?_ (h.2.1 a)
  by_cases hb : a.block = w.heap.size
  · have e1 : (w.iter s p).heap[a.block]? = some (.stringIter s p) := by rw [hb]; exact World.iter_heap w s p
    have e2 : w.heap[a.block]? = none := by rw [hb]; simp
    simp [World.frozen?, e1, e2]
  · exact World.frozen?_alloc_old _ _ _ hb

set_option maxHeartbeats 800000 in
theorem walk_big (tag text : ByteArray) (w0 : tag.size ≤ maxLen) (w1 : text.size ≤ maxLen) (w : World) (h : 524288 < tag.size ∨ 524288 < text.size) :
    Calls Trym.prog 3 #[.string tag, .string text] w fun e w' => e = .returned (.bool true) ∧ Grown w w' := by
  unfold maxLen at w0 w1
  have hc : 1048576 < tag.size ∨ (tag.size ≤ 1048576 ∧ 1048576 < text.size) ∨ (tag.size ≤ 1048576 ∧ text.size ≤ 1048576 ∧ 1048576 < tag.size + text.size) ∨
      (tag.size + text.size ≤ 1048576 ∧ 524288 < tag.size) ∨ (tag.size + text.size ≤ 1048576 ∧ tag.size ≤ 524288 ∧ 524288 < text.size) := by omega
  clear h
  rcases hc with h1 | ⟨h1, h2⟩ | ⟨h1, h2, h3⟩ | ⟨h1, h2⟩ | ⟨h1, h2, h3⟩
  all_goals
    go_enter Trym.func3, Trym.ntmps3
    go_wp2
    go_ret
    exact ⟨rfl, Grown.refl _⟩

set_option maxHeartbeats 800000 in
theorem walk_in (tag text : ByteArray) (w : World) (h1 : tag.size ≤ 524288) (h2 : text.size ≤ 524288) :
    Calls Trym.prog 3 #[.string tag, .string text] w fun e w' => e = .returned (.bool true) ∧ Grown w w' := by
  obtain ⟨b, hb, ht⟩ := shape_any tag (by omega)
  cases b with
  | false =>
    clear ht
    go_enter Trym.func3, Trym.ntmps3
    go_wp2_with (first | (go_at_call 6; go_in) | (go_at_call 7; refine (hb _).mono ?_; rintro e w' ⟨rfl, rfl⟩))
    go_ret
    exact ⟨rfl, Grown.refl _⟩
  | true =>
    obtain ⟨hz, d0, d1, hk⟩ := ht rfl
    simp only [dg, decide_eq_true_eq] at d0 d1
    have hls := line_size tag text
    have HL : Hid ((line tag text).size ≤ 2097152) := by show (line tag text).size ≤ 2097152; omega
    clear hls
    have HC : Hid (∀ wx : World, Calls Trym.prog 8 #[.string ((⟨#[58]⟩ : ByteArray) ++ tag ++ (⟨#[58]⟩ : ByteArray) ++ text)] wx fun e w' =>
        e = .returned (.tuple #[.string tag, .string text, .bool true]) ∧ ∃ s pos m, w' = (wx.iter s pos).drewN m) := by
      intro wx
      rcases hk with hk | ⟨h3, hk, u2⟩
      · obtain ⟨z, f0, f1, f2, f3, g1, g2⟩ := two (text := text) hk
        have hc := zz_two (line tag text) wx HL.out z f0 (by rw [f1]; exact d0) (by rw [f2]; exact d1) f3
        rw [g2, g1] at hc
        exact hc.mono fun e w' ⟨he, pos, m, hw⟩ => ⟨he, _, pos, m, hw⟩
      · simp only [up, decide_eq_true_eq] at u2
        obtain ⟨z, f0, f1, f2, f3, f4, g1, g2⟩ := three (text := text) hk
        have hc := zz_three (line tag text) wx HL.out z f0 (by rw [f1]; exact d0) (by rw [f2]; exact d1) (by rw [f3]; exact u2) f4
        rw [g2, g1] at hc
        exact hc.mono fun e w' ⟨he, pos, m, hw⟩ => ⟨he, _, pos, m, hw⟩
    clear d0 d1 hz hk ht HL
    go_enter Trym.func3, Trym.ntmps3
    go_wp2_with (first | (go_at_call 6; go_in) | (go_at_call 7; refine (hb _).mono ?_; rintro e w' ⟨rfl, rfl⟩))
    refine Calls.mono (HC.out _) ?_
    rintro e w2 ⟨rfl, s, pos, m, rfl⟩
    clear hb HC
    go_wp2
    go_ret
    exact ⟨rfl, grown_drewN (grown_iter (Grown.refl _) _ _) _⟩
theorem walk (a0 : ByteArray) (a1 : ByteArray) (w0 : a0.size ≤ maxLen) (w1 : a1.size ≤ maxLen) (w : World) :
    Calls Trym.prog 3 #[.string a0, .string a1] w fun e w' => e = .returned (.bool true) ∧ Grown w w' := by
  by_cases h : 524288 < a0.size ∨ 524288 < a1.size
  · exact walk_big a0 a1 w0 w1 w h
  · exact walk_in a0 a1 w (by omega) (by omega)

/-! ### THE ROW's STEP: WRITTEN OUT: LEAVE IT -/
set_option maxRecDepth 100000 in
theorem lifted (os : Os) (started : os.Started) (H : Type) (enc : TypeId × Value → H) :
    ReturnsInHanded {} Trym.checked os 3 .any (Rows.fnCutTagInvertsJoinSpec.pre6 enc Trym.prog Trym.f3 Rows.fnCutTagInvertsJoinRow.domain false) (Rows.fnCutTagInvertsJoinSpec.post enc Trym.prog Trym.f3 false true false false) := by
  refine returnsInHanded_of_change (C := Trym.checked) own started (by kernel_rfl) Trym.func3
    (ChangeSpec.witness6 (enc := enc) (C := Trym.checked) false ⟨#[], #[.string ByteArray.empty, .string ByteArray.empty], []⟩ 8 (by kernel_rfl) (by kernel_rfl) (by kernel_rfl) (by kernel_rfl)) ?_
  intro W base args ds gs before hval0 hW hcnd _
  have hval : ∀ (j : Nat) t v, Trym.f3.params[j]? = some t → args[j]? = some v → Value.okWide Trym.prog W .any base t v := hval0
  have hW' := hW
  obtain ⟨p, q, hA0, hV, rfl, hfz, hnd⟩ := hW
  have hA : DataW.TrodAll enc Trym.prog W 0 (fun _ => true) true Trym.f3.params.toList args.toList ds p := hA0
  rw [Trym.params3] at hA hval
  obtain ⟨v0, vs0, d0, ds0, p0, q0, hargs, rfl, rfl, h0, r0⟩ := trodAll_cons hA
  obtain ⟨v1, vs1, d1, ds1, p1, q1, rfl, rfl, rfl, h1, r1⟩ := trodAll_cons r0
  obtain ⟨rfl, rfl, rfl⟩ := trodAll_nil r1
  obtain rfl : args = #[v0, v1] := by cases args; simp_all
  obtain ⟨rfl, rfl⟩ := trodVars_none hV
  obtain ⟨a0, rfl, rfl, rfl, w0⟩ := open_string Trym.underlying9 (hval 0 9 v0 rfl rfl) h0
  obtain ⟨a1, rfl, rfl, rfl, w1⟩ := open_string Trym.underlying9 (hval 1 9 v1 rfl rfl) h1
  clear hA0 hval0
  simp only [List.append_nil] at hW'
  refine (walk a0 a1 w0 w1 W).mono fun e W' ⟨he, hg⟩ => ?_
  subst he
  exact ⟨_, rfl, post_of_same (pa := []) (pv := []) hW' (fun _ _ _ => (trodAll_cons_mk (shut_bool Trym.underlying4 _) trodAll_mk0)) (fun sp _ => (trodAll_cons_mk (shut_string Trym.underlying9 w0) (trodAll_cons_mk (shut_string Trym.underlying9 w1) trodAll_mk0))) (fun _ _ => rfl) rfl
    (hg.frame _) hg.2.1 (ok_one (by kernel_rfl) rfl (okWide_bool_mk Trym.underlying4 _))⟩

theorem over : Rows.fnCutTagInvertsJoinRow.holds Trym.pinned (OpenSpec.ofChange Rows.fnCutTagInvertsJoinSpec) :=
  OpenClaim.holds_of_wide 3 Trym.f3 rfl rfl rfl rfl rfl rfl rfl ⟨rfl, rfl, rfl, rfl, rfl⟩ rfl rfl rfl rfl rfl (by kernel_rfl) Trym.func3 (by kernel_rfl)
    (of_decide_eq_true (by kernel_rfl)) (by unfold Func.isWrapper; first | (rw [if_pos (by decide +kernel)]; kernel_rfl) | (rw [if_neg (by decide +kernel)]; exact ⟨rfl, rfl⟩))
    (fun os started H enc _ => lifted os started H enc)

/-- ████ THE STATEMENT ████ -/
theorem proved : Rows.FnCutTagInvertsJoinSaid :=
  over
end Go.Proofs.Qxb6001609aMods.fnCutTagInvertsJoin
