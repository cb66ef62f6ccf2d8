/-
  A PROOF OF 'Rows.FnIsNameAppendOneByteSaid'. The frame was written by program (proof-skeleton.mjs); the walk is the prover's.
-/
import Derived.Test.Qxb6001139aModsNameWalk
import Derived.Laws.IdiomStrings
import Derived.WalkKit
import Derived.ProofKit
import Derived.OpenShut
import Derived.ShutString
namespace Go.Proofs.Qxb6001139aMods.fnIsNameAppendOneByte
open NamePlain NameWalk
open Go.ChangeShapes Go.WideShapes Go.ChangeAt Go.RowKit
open Go.ChangeMaps (open_string shut_string)
set_option linter.unusedVariables false      -- a walk need not use every 'w<i>' (that an integer argument fits its kind)

theorem own : ownKnob Trym.prog.godebug = none := by kernel_rfl

/-! ### STEP 1: THE WALK: the Go text returns true. 'Grown w w'': the world has at most new blocks (Derived/RowKit3.lean). Part the cases AHEAD of 'go_enter' where a test parts the walk; each callee by a contract of its own. -/
theorem byte_of (a : Int) (h : (Lit.int .u8 a).wf = true) : ∃ c : UInt8, a = (c.toNat : Int) := by
  have hb : 0 ≤ a ∧ a ≤ 255 := bounds_u8 h
  refine ⟨UInt8.ofNat a.toNat, ?_⟩
  rw [UInt8.toNat_ofNat']
  omega

/-- 'isName' of a string: a name that the walk does not open. -/
def nmS (s : ByteArray) : Bool := isNm s.data.toList
theorem zz_any (s : ByteArray) (w : World) (hs : s.size ≤ maxLen) :
    Calls Trym.prog 7 #[.string s] w fun e w' => e = .returned (.bool (nmS s)) ∧ w' = w := zzIsName_any s w hs
theorem app_list (s : ByteArray) (c : UInt8) : (s ++ (⟨#[c]⟩ : ByteArray)).data.toList = s.data.toList ++ [c] := by simp [ByteArray.data_append]
theorem law_empty (s : ByteArray) (c : UInt8) (h : s.toList.isEmpty = true) : nmS (s ++ ⟨#[c]⟩) = (nm (c.toNat : Int) && !dg (c.toNat : Int)) := by
  rw [ByteArray.toList_eq, List.isEmpty_iff] at h
  rw [nmS, app_list, h]; exact law_one c
theorem law_other (s : ByteArray) (c : UInt8) (h : s.toList.isEmpty = false) : nmS (s ++ ⟨#[c]⟩) = (nmS s && nm (c.toNat : Int)) := by
  rw [ByteArray.toList_eq] at h
  rw [nmS, app_list]; exact law_more _ c (by intro e; rw [e] at h; simp at h)
theorem conv_one (w : World) (c : UInt8) : (convert 23 9 (.slice (some ⟨w.heap.size, 0, none⟩) 1 1)).run Trym.prog (w.alloc (.cells #[.int .u8 (c.toNat : Int)] 5)) =
    .ok (.string ⟨#[c]⟩) (w.alloc (.cells #[.int .u8 (c.toNat : Int)] 5)) :=
  run_convert_bytes_back (P := Trym.prog) (w.alloc (.cells #[.int .u8 (c.toNat : Int)] 5)) 23 9 5 ⟨w.heap.size, 0, none⟩ 1 [c] Trym.underlying23 Trym.underlying5 Trym.underlying9 (by
    intro j hj
    match j, hj with
    | 0, hj => simp [Addr.add])

set_option maxHeartbeats 800000 in
theorem walk (a0 : ByteArray) (a1 : Int) (w0 : a0.size ≤ maxLen) (w1 : (Lit.int .u8 a1).wf = true) (w : World) :
    Calls Trym.prog 3 #[.string a0, .int .u8 a1] w fun e w' => e = .returned (.bool true) ∧ Grown w w' := by
  obtain ⟨c, rfl⟩ := byte_of a1 w1
  clear w1
  unfold maxLen at w0
  by_cases hbig : 1048576 < a0.size
  · go_enter Trym.func3, Trym.ntmps3
    go_wp2
    go_ret
    exact ⟨rfl, by repeat (first | exact Grown.refl _ | apply Grown.drew | apply Grown.alloc)⟩
  · have hconv := conv_one w c
    have hsz : (a0 ++ (⟨#[c]⟩ : ByteArray)).size ≤ maxLen := by
      unfold maxLen; rw [ByteArray.size_append]; show a0.size + 1 ≤ _; omega
    cases he : a0.toList.isEmpty with
    | true =>
      cases hg : nmS (a0 ++ ⟨#[c]⟩) <;> cases hn : nm (c.toNat : Int) <;> cases hd : dg (c.toNat : Int)
      all_goals
        have hl := law_empty a0 c he
        rw [hg, hn, hd] at hl
        first
          | exact absurd hl (by decide)
          | (clear hl
             go_enter Trym.func3, Trym.ntmps3
             go_wp2_with (first | (go_at_call 6; go_in) | (go_at_call 7; refine (zz_any _ _ hsz).mono ?_; rintro e w' ⟨rfl, rfl⟩) | (go_at_call 8; refine (nameByte_any _ _).mono ?_; rintro e w' ⟨rfl, rfl⟩) | (go_at_call 9; refine (digit_any _ _).mono ?_; rintro e w' ⟨rfl, rfl⟩))
             go_ret
             exact ⟨rfl, by repeat (first | exact Grown.refl _ | apply Grown.drew | apply Grown.alloc)⟩)
    | false =>
      cases hg : nmS (a0 ++ ⟨#[c]⟩) <;> cases hn : nm (c.toNat : Int) <;> cases hd : nmS a0
      all_goals
        have hl := law_other a0 c he
        rw [hg, hn, hd] at hl
        first
          | exact absurd hl (by decide)
          | (clear hl
             go_enter Trym.func3, Trym.ntmps3
             go_wp2_with (first | (go_at_call 6; go_in))
             refine (zz_any _ _ hsz).mono ?_
             rintro e w' ⟨rfl, rfl⟩
             go_wp2_with fail
             refine (zz_any a0 _ (by unfold maxLen; omega)).mono ?_
             rintro e w' ⟨rfl, rfl⟩
             go_wp2_with (first | (go_at_call 8; refine (nameByte_any _ _).mono ?_; rintro e w' ⟨rfl, rfl⟩))
             go_ret
             exact ⟨rfl, by repeat (first | exact Grown.refl _ | apply Grown.drew | apply Grown.alloc)⟩)

/-! ### THE ROW's STEP: WRITTEN OUT: LEAVE IT -/
set_option maxRecDepth 100000 in
theorem lifted (os : Os) (started : os.Started) (H : Type) (enc : TypeId × Value → H) :
    ReturnsInHanded {} Trym.checked os 3 .any (Rows.fnIsNameAppendOneByteSpec.pre6 enc Trym.prog Trym.f3 Rows.fnIsNameAppendOneByteRow.domain false) (Rows.fnIsNameAppendOneByteSpec.post enc Trym.prog Trym.f3 false true false false) := by
  refine returnsInHanded_of_change (C := Trym.checked) own started (by kernel_rfl) Trym.func3
    (ChangeSpec.witness6 (enc := enc) (C := Trym.checked) false ⟨#[], #[.string ByteArray.empty, .int .u8 0], []⟩ 8 (by kernel_rfl) (by kernel_rfl) (by kernel_rfl) (by kernel_rfl)) ?_
  intro W base args ds gs before hval0 hW hcnd _
  have hval : ∀ (j : Nat) t v, Trym.f3.params[j]? = some t → args[j]? = some v → Value.okWide Trym.prog W .any base t v := hval0
  have hW' := hW
  obtain ⟨p, q, hA0, hV, rfl, hfz, hnd⟩ := hW
  have hA : DataW.TrodAll enc Trym.prog W 0 (fun _ => true) true Trym.f3.params.toList args.toList ds p := hA0
  rw [Trym.params3] at hA hval
  obtain ⟨v0, vs0, d0, ds0, p0, q0, hargs, rfl, rfl, h0, r0⟩ := trodAll_cons hA
  obtain ⟨v1, vs1, d1, ds1, p1, q1, rfl, rfl, rfl, h1, r1⟩ := trodAll_cons r0
  obtain ⟨rfl, rfl, rfl⟩ := trodAll_nil r1
  obtain rfl : args = #[v0, v1] := by cases args; simp_all
  obtain ⟨rfl, rfl⟩ := trodVars_none hV
  obtain ⟨a0, rfl, rfl, rfl, w0⟩ := open_string Trym.underlying9 (hval 0 9 v0 rfl rfl) h0
  obtain ⟨a1, rfl, rfl, rfl, w1⟩ := open_int Trym.underlying5 (hval 1 5 v1 rfl rfl) h1
  clear hA0 hval0
  simp only [List.append_nil] at hW'
  refine (walk a0 a1 w0 w1 W).mono fun e W' ⟨he, hg⟩ => ?_
  subst he
  exact ⟨_, rfl, post_of_same (pa := []) (pv := []) hW' (fun _ _ _ => (trodAll_cons_mk (shut_bool Trym.underlying4 _) trodAll_mk0)) (fun sp _ => (trodAll_cons_mk (shut_string Trym.underlying9 w0) (trodAll_cons_mk (shut_int Trym.underlying5 w1) trodAll_mk0))) (fun _ _ => rfl) rfl
    (hg.frame _) hg.2.1 (ok_one (by kernel_rfl) rfl (okWide_bool_mk Trym.underlying4 _))⟩

theorem over : Rows.fnIsNameAppendOneByteRow.holds Trym.pinned (OpenSpec.ofChange Rows.fnIsNameAppendOneByteSpec) :=
  OpenClaim.holds_of_wide 3 Trym.f3 rfl rfl rfl rfl rfl rfl rfl ⟨rfl, rfl, rfl, rfl, rfl⟩ rfl rfl rfl rfl rfl (by kernel_rfl) Trym.func3 (by kernel_rfl)
    (of_decide_eq_true (by kernel_rfl)) (by unfold Func.isWrapper; first | (rw [if_pos (by decide +kernel)]; kernel_rfl) | (rw [if_neg (by decide +kernel)]; exact ⟨rfl, rfl⟩))
    (fun os started H enc _ => lifted os started H enc)

/-- ████ THE STATEMENT ████ -/
theorem proved : Rows.FnIsNameAppendOneByteSaid :=
  over
end Go.Proofs.Qxb6001139aMods.fnIsNameAppendOneByte
