/-
  The frame: written by the guide's program (proof-skeleton.mjs) for this statement. The walk is filled in.
-/
import Derived.Test.Qxb6606388aRows
import Derived.Test.Qxb6606388aBody
import Derived.WalkKit
import Derived.ProofKit
import Derived.OpenShut
import Derived.ShutString
namespace Go.Proofs.Qxb6606388a.fnSkipNestedCommentMatchesModel
open Go.ChangeShapes Go.WideShapes Go.ChangeAt Go.RowKit
open Go.ChangeMaps (open_string shut_string)
set_option linter.unusedVariables false      -- a walk need not use every 'w<i>' (that an integer argument fits its kind)

theorem own : ownKnob Try.prog.godebug = none := by kernel_rfl

/-! ### STEP 1: THE WALK: the Go text returns true. 'Grown w w'': the world has at most new blocks (Derived/RowKit3.lean). Part the cases AHEAD of 'go_enter' where a test parts the walk; take each callee by a contract of your own. -/
theorem walk (a0 : ByteArray) (a1 : Int) (w0 : a0.size ≤ maxLen) (w1 : (Lit.int .i64 a1).wf = true) (w : World) :
    Calls Try.prog 3 #[.string a0, .int .i64 a1] w fun e w' => e = .returned (.bool true) ∧ Grown w w' := by
  by_cases hc : 65536 < a0.size
  · unfold maxLen at w0
    go_enter Try.func3, Try.ntmps3
    go_wp2_with (go_at_call 6; refine (Skip.bytes6_any a0 a1 _ w0).mono ?_; rintro e w' ⟨⟨b, rfl⟩, hw'⟩; subst w'; cases b)
    all_goals
      go_ret
      exact ⟨rfl, Grown.refl _⟩
  have hc' : a0.size ≤ 65536 := by omega
  clear hc w0
  by_cases h1 : a1 < 0
  · go_enter Try.func3, Try.ntmps3
    go_wp2_with (go_at_call 6; refine (Skip.bytes6_yes a0 a1 _ hc').mono ?_; rintro e w' ⟨rfl, hw'⟩; subst w')
    go_ret
    exact ⟨rfl, Grown.refl _⟩
  have d1 : decide (a1 < 0) = false := by simp; omega
  by_cases h2 : (a0.size : Int) - 1 ≤ a1
  · obtain ⟨b0, b1⟩ := bounds_i64 w1
    go_enter Try.func3, Try.ntmps3
    go_wp2_with (go_at_call 6; refine (Skip.bytes6_yes a0 a1 _ hc').mono ?_; rintro e w' ⟨rfl, hw'⟩; subst w')
    go_ret
    exact ⟨rfl, Grown.refl _⟩
  obtain ⟨k, rfl⟩ := Int.eq_ofNat_of_zero_le (show 0 ≤ a1 by omega)
  have hk : k + 1 < a0.size := by omega
  have d2 : decide ((a0.size : Int) - 1 ≤ (k : Int)) = false := by simp; omega
  clear h1 h2 w1
  have z0 := Plain.zs_at a0 k
  have z1 := Plain.zs_at a0 (k + 1)
  by_cases g0 : Plain.zs a0 k = 47
  · by_cases g1 : Plain.zs a0 (k + 1) = 42
    · have HO := Plain.S_open (Plain.zs a0) a0.size k hk g0 g1
      have hr := Plain.B_range (Plain.zs a0) a0.size (k + 2)
      obtain ⟨q, hq⟩ : ∃ q, q = Plain.B (Plain.zs a0) a0.size (k + 2) := ⟨_, rfl⟩
      obtain ⟨R, hR⟩ : ∃ R : Int, R = (Plain.S (Plain.zs a0) a0.size 0 k : Nat) := ⟨_, rfl⟩
      rw [← hq] at HO hr
      rw [← hR] at HO
      have HQ : Hid (q = Plain.B (Plain.zs a0) a0.size (k + 2)) := hq
      have HR : Hid (R = (Plain.S (Plain.zs a0) a0.size 0 k : Nat)) := hR
      have HO' : Hid (R = if q < 0 then (a0.size : Int) else q) := HO
      have HE2 : Hid (((k : Int) + 2) = ((k + 2 : Nat) : Int)) := by show _ = _; omega
      clear hq hR HO
      by_cases hneg : q < 0
      · have HF : Hid (R = (a0.size : Int)) := by show R = _; rw [HO'.out, if_pos hneg]
        clear hr
        go_enter Try.func3, Try.ntmps3
        go_wp2_with (first | (go_at_call 6; refine (Skip.bytes6_yes a0 _ _ hc').mono ?_; rintro e w' ⟨rfl, hw'⟩; subst w') | (go_at_call 7; refine (Skip.zz_any a0 k _ (by omega) (by omega)).mono ?_; rintro e w' ⟨rfl, hw'⟩; subst w'; rw [← HR.out]) | (go_at_call 8; rw [HE2.out]; refine (Body.body_any a0 (by omega) a0.size (k + 2) _ (by omega) (by omega)).mono ?_; rintro e w' ⟨rfl, hw'⟩; subst w'; rw [← HQ.out]))
        go_ret
        exact ⟨by rw [HF.out]; simp, Grown.refl _⟩
      · have HF : Hid (R = q) := by show R = _; rw [HO'.out, if_neg hneg]
        go_enter Try.func3, Try.ntmps3
        go_wp2_with (first | (go_at_call 6; refine (Skip.bytes6_yes a0 _ _ hc').mono ?_; rintro e w' ⟨rfl, hw'⟩; subst w') | (go_at_call 7; refine (Skip.zz_any a0 k _ (by omega) (by omega)).mono ?_; rintro e w' ⟨rfl, hw'⟩; subst w'; rw [← HR.out]) | (go_at_call 8; rw [HE2.out]; refine (Body.body_any a0 (by omega) a0.size (k + 2) _ (by omega) (by omega)).mono ?_; rintro e w' ⟨rfl, hw'⟩; subst w'; rw [← HQ.out]))
        go_ret
        exact ⟨by rw [HF.out]; simp, Grown.refl _⟩
    · have t0 : (Plain.zs a0 k != 47) = false := by simp [g0]
      have t1 : (Plain.zs a0 (k + 1) != 42) = true := by simp [g1]
      go_enter Try.func3, Try.ntmps3
      go_wp2_with (go_at_call 6; refine (Skip.bytes6_yes a0 _ _ hc').mono ?_; rintro e w' ⟨rfl, hw'⟩; subst w')
      go_ret
      exact ⟨rfl, Grown.refl _⟩
  · have t0 : (Plain.zs a0 k != 47) = true := by simp [g0]
    go_enter Try.func3, Try.ntmps3
    go_wp2_with (go_at_call 6; refine (Skip.bytes6_yes a0 _ _ hc').mono ?_; rintro e w' ⟨rfl, hw'⟩; subst w')
    go_ret
    exact ⟨rfl, Grown.refl _⟩

/-! ### THE ROW's STEP: WRITTEN OUT: LEAVE IT -/
set_option maxRecDepth 100000 in
theorem lifted (os : Os) (started : os.Started) (H : Type) (enc : TypeId × Value → H) :
    ReturnsInHanded {} Try.checked os 3 .any (Rows.fnSkipNestedCommentMatchesModelSpec.pre6 enc Try.prog Try.f3 Rows.fnSkipNestedCommentMatchesModelRow.domain false) (Rows.fnSkipNestedCommentMatchesModelSpec.post enc Try.prog Try.f3 false true false false) := by
  refine returnsInHanded_of_change (C := Try.checked) own started (by kernel_rfl) Try.func3
    (ChangeSpec.witness6 (enc := enc) (C := Try.checked) false ⟨#[], #[.string ByteArray.empty, .int .i64 0], []⟩ 8 (by kernel_rfl) (by kernel_rfl) (by kernel_rfl) (by kernel_rfl)) ?_
  intro W base args ds gs before hval0 hW hcnd _
  have hval : ∀ (j : Nat) t v, Try.f3.params[j]? = some t → args[j]? = some v → Value.okWide Try.prog W .any base t v := hval0
  have hW' := hW
  obtain ⟨p, q, hA0, hV, rfl, hfz, hnd⟩ := hW
  have hA : DataW.TrodAll enc Try.prog W 0 (fun _ => true) true Try.f3.params.toList args.toList ds p := hA0
  rw [Try.params3] at hA hval
  obtain ⟨v0, vs0, d0, ds0, p0, q0, hargs, rfl, rfl, h0, r0⟩ := trodAll_cons hA
  obtain ⟨v1, vs1, d1, ds1, p1, q1, rfl, rfl, rfl, h1, r1⟩ := trodAll_cons r0
  obtain ⟨rfl, rfl, rfl⟩ := trodAll_nil r1
  obtain rfl : args = #[v0, v1] := by cases args; simp_all
  obtain ⟨rfl, rfl⟩ := trodVars_none hV
  obtain ⟨a0, rfl, rfl, rfl, w0⟩ := open_string Try.underlying9 (hval 0 9 v0 rfl rfl) h0
  obtain ⟨a1, rfl, rfl, rfl, w1⟩ := open_int Try.underlying3 (hval 1 3 v1 rfl rfl) h1
  clear hA0 hval0
  simp only [List.append_nil] at hW'
  refine (walk a0 a1 w0 w1 W).mono fun e W' ⟨he, hg⟩ => ?_
  subst he
  exact ⟨_, rfl, post_of_same (pa := []) (pv := []) hW' (fun _ _ _ => (trodAll_cons_mk (shut_bool Try.underlying4 _) trodAll_mk0)) (fun sp _ => (trodAll_cons_mk (shut_string Try.underlying9 w0) (trodAll_cons_mk (shut_int Try.underlying3 w1) trodAll_mk0))) (fun _ _ => rfl) rfl
    (hg.frame _) hg.2.1 (ok_one (by kernel_rfl) rfl (okWide_bool_mk Try.underlying4 _))⟩

theorem over : Rows.fnSkipNestedCommentMatchesModelRow.holds Try.pinned (OpenSpec.ofChange Rows.fnSkipNestedCommentMatchesModelSpec) :=
  OpenClaim.holds_of_wide 3 Try.f3 rfl rfl rfl rfl rfl rfl rfl ⟨rfl, rfl, rfl, rfl, rfl⟩ rfl rfl rfl rfl rfl (by kernel_rfl) Try.func3 (by kernel_rfl)
    (of_decide_eq_true (by kernel_rfl)) (by unfold Func.isWrapper; first | (rw [if_pos (by decide +kernel)]; kernel_rfl) | (rw [if_neg (by decide +kernel)]; exact ⟨rfl, rfl⟩))
    (fun os started H enc _ => lifted os started H enc)

/-- ████ THE STATEMENT ████ -/
theorem proved : Rows.FnSkipNestedCommentMatchesModelSaid :=
  over
#print axioms proved
end Go.Proofs.Qxb6606388a.fnSkipNestedCommentMatchesModel
