/-
  The frame: written by the guide's program (proof-skeleton.mjs) for this statement. The walk is filled in.
-/
import Derived.Test.Qxb6605578aRows
import Derived.Test.Qxb6605578aSkip
import Derived.WalkKit
import Derived.ProofKit
import Derived.OpenShut
import Derived.ShutString
import Derived.ChangeOld
import Derived.Below
namespace Go.Proofs.Qxb6605578a.fnSkipSpaceStopsAtFirstNonSpace
open Go.ChangeShapes Go.WideShapes Go.ChangeAt Go.RowKit
open Go.ChangeMaps (open_string shut_string)
set_option linter.unusedVariables false

theorem own : ownKnob Try.prog.godebug = none := by kernel_rfl
theorem laidOut : laidOutB Try.prog = true := by kernel_rfl

/-- WHAT THE WALK IS TOLD OF A SLICE OF INTEGERS THAT CAME IN: it is nil; or it leads to a row of 'cap' cells, the numbers 'zs' (the first 'len' are its elements, the rest its spare room), each fitting its kind. -/
def IsRow (k : IntKind) (w : World) (a : Option Addr) (len cap : Nat) (zs : List Int) : Prop :=
  (a = none ∧ len = 0 ∧ cap = 0 ∧ zs = []) ∨
  ∃ x, a = some x ∧ len ≤ cap ∧ cap ≤ maxLen ∧ zs.length = cap ∧ (∀ i, i < zs.length → w.cell? (x.add i) = some (.int k (zs.getD i 0))) ∧ ∀ n ∈ zs, (Lit.int k n).wf = true

/-! ### STEP 1: THE WALK: the Go text returns true, AND WRITES NOTHING THAT WAS THERE: 'Below w.heap.size w w'' (Derived/Below.lean: '.refl', '.alloc', '.drew', '.setCell' at a new block, '.trans'). Open each 'IsRow' by 'rcases' AHEAD of 'go_enter'; part every test ahead of the walk. -/
theorem walk (a0 : Option Addr) (len0 cap0 : Nat) (z0 : List Int) (a1 : Int) (w : World) (w0 : IsRow .u8 w a0 len0 cap0 z0) (w1 : (Lit.int .i64 a1).wf = true) :
    Calls Try.prog 3 #[.slice a0 len0 cap0, .int .i64 a1] w fun e w' => e = .returned (.bool true) ∧ Below w.heap.size w w' := by
  by_cases hbig : 1048576 < len0
  · go_enter Try.func3, Try.ntmps3
    go_wp2_with (go_at_call 5; refine (Skip.bytes_no _ _ _ _ _ hbig).mono ?_; rintro e w' ⟨rfl, rfl⟩)
    go_ret
    exact ⟨rfl, Below.refl _ _⟩
  have hn : len0 ≤ 1048576 := by omega
  clear hbig
  by_cases hneg : a1 < 0
  · go_enter Try.func3, Try.ntmps3
    go_wp2_with (go_at_call 5; refine (Skip.bytes_yes _ _ _ _ _ hn).mono ?_; rintro e w' ⟨rfl, rfl⟩)
    go_ret
    exact ⟨rfl, Below.refl _ _⟩
  rcases w0 with ⟨rfl, rfl, rfl, rfl⟩ | ⟨x, rfl, hl, hm, hz, hcell, hwz⟩
  · -- the nil slice
    have hp : ((0 : Nat) : Int) ≤ a1 := by omega
    have hne : ∀ W : World, (binOp .neq 22 (.slice none 0 0) (.slice none 0 0)).run Try.prog W = .ok (.bool false) W := fun W => run_neq_slice_nil W 22 5 none 0 0 Try.underlying22
    go_enter Try.func3, Try.ntmps3
    go_wp2_with (first | (go_at_call 5; refine (Skip.bytes_yes _ _ _ _ _ hn).mono ?_; rintro e w' ⟨rfl, rfl⟩) | (go_at_call 6; refine (Skip.zz_past _ _ _ _ _ hp).mono ?_; rintro e w' ⟨rfl, rfl⟩))
    go_ret
    exact ⟨rfl, Below.refl _ _⟩
  -- not nil: a copy is made
  have HC : Hid (∀ i, i < z0.length → w.cell? (x.add i) = some (.int .u8 (z0.getD i 0))) := hcell
  have HW : Hid (∀ n ∈ z0, (Lit.int .u8 n).wf = true) := hwz
  have HZ : Hid (z0.length = cap0) := hz
  clear hcell hwz hz
  have hne : ∀ W : World, (binOp .neq 22 (.slice (some x) len0 cap0) (.slice none 0 0)).run Try.prog W = .ok (.bool true) W := fun W => run_neq_slice_nil W 22 5 (some x) len0 cap0 Try.underlying22
  obtain ⟨i0, hi, hz0, hz1, hz2⟩ := info_parts Skip.info5
  have hb1 : i0.bytes * len0 ≤ 281474976710656 := by rw [hz2]; omega
  have hb2 : len0 ≤ maxLen := by unfold maxLen; omega
  clear hz2
  by_cases hpast : (len0 : Int) ≤ a1
  · -- the place lies at or behind the end
    have Hp : Hid ((len0 : Int) ≤ a1) := hpast
    go_enter Try.func3, Try.ntmps3
    go_wp2_with (first | (go_at_call 5; refine (Skip.bytes_yes _ _ _ _ _ hn).mono ?_; rintro e w' ⟨rfl, hw'⟩; subst w') | (at_make; refine wpList_make_full _ rfl _ _ 22 rfl w.heap.size 5 i0 (.int .u8 0) 1 Try.underlying22 hi hz0 hz1 _ _ _ _ len0 rfl rfl rfl rfl hb1 hb2 (Nat.le_refl _) ?_; intro w1 hown hgrow))
    obtain ⟨w2, hrun, _, hbel⟩ := Skip.copy_made (cap := cap0) (ty := 3) Try.underlying22 Skip.size5 (by have := HZ.out; omega) HC.out hown hgrow
    rw [hrun]
    clear hrun hown hgrow
    go_wp2_with (go_at_call 6; refine (Skip.zz_past _ _ _ _ _ Hp.out).mono ?_; rintro e w' ⟨rfl, hw'⟩; subst w')
    go_ret
    exact ⟨rfl, hbel⟩
  -- the place lies inside
  obtain ⟨k, rfl⟩ := Int.eq_ofNat_of_zero_le (show 0 ≤ a1 by omega)
  have hk : k ≤ len0 := by omega
  have hklt : k < len0 := by omega
  clear hpast hneg
  go_enter Try.func3, Try.ntmps3
  go_wp2_with (first | (go_at_call 5; refine (Skip.bytes_yes _ _ _ _ _ hn).mono ?_; rintro e w' ⟨rfl, hw'⟩; subst w') | (at_make; refine wpList_make_full _ rfl _ _ 22 rfl w.heap.size 5 i0 (.int .u8 0) 1 Try.underlying22 hi hz0 hz1 _ _ _ _ len0 rfl rfl rfl rfl hb1 hb2 (Nat.le_refl _) ?_; intro w1 hown hgrow))
  obtain ⟨w2, hrun, hc2, hbel⟩ := Skip.copy_made (cap := cap0) (ty := 3) Try.underlying22 Skip.size5 (by have := HZ.out; omega) HC.out hown hgrow
  rw [hrun]
  clear hrun hown hgrow HC HW HZ hne hi hz0 hz1 hb1 hb2 hm hl i0
  have HC2 : Hid (∀ t, t < len0 → w2.cell? ⟨w.heap.size, t, none⟩ = some (.int .u8 (z0.getD t 0))) := hc2
  clear hc2
  go_wp2_with fail
  refine (Skip.zz_in w.heap.size 0 len0 len0 z0 k w2 hk hn (by intro t ht; rw [Nat.zero_add]; exact HC2.out t ht)).mono ?_
  rintro e w' ⟨j, rfl, ⟨h1, h2, h3, h4⟩, hw'⟩
  subst w'
  have H3 : Hid (∀ t, k ≤ t → t < j → Skip.spB (z0.getD t 0) = true) := h3
  have H4 : Hid (j < len0 → Skip.spB (z0.getD j 0) = false) := h4
  clear h3 h4
  have d0 : decide (len0 ≤ k) = false := by simp; omega
  have d1 : decide (j < k) = false := by simp; omega
  have d2 : decide (len0 < j) = false := by simp; omega
  go_wp2_with fail
  go_loop [7] (fun v => ∃ t : Nat, v = .int .i64 t ∧ k ≤ t ∧ t ≤ j) (fun v => j - (intOf v).toNat)
  case atStart => exact ⟨k, rfl, Nat.le_refl _, h1⟩
  case round =>
    obtain ⟨t, rfl, ht1, ht2⟩ := hrel
    by_cases hlt : t < j
    · have hcell := HC2.out t (by omega)
      have hsp := H3.out t ht1 hlt
      obtain ⟨c, hcc⟩ : ∃ c, c = z0.getD t 0 := ⟨_, rfl⟩
      rw [← hcc] at hcell hsp
      clear hcc
      have htn : t < len0 := by omega
      go_wp2_with (go_at_call 7; refine (Skip.space_any c _).mono ?_; rintro e w' ⟨rfl, hw'⟩; subst w')
      go_round
      case rel => exact ⟨t + 1, by go_num, by omega, by omega⟩
      case measure => simp [intOf]; omega
    · obtain rfl : t = j := by omega
      clear hlt d0 d1 d2
      by_cases hend : t < len0
      · have hcell := HC2.out t hend
        have hsp := H4.out hend
        obtain ⟨c, hcc⟩ : ∃ c, c = z0.getD t 0 := ⟨_, rfl⟩
        rw [← hcc] at hcell hsp
        clear hcc
        go_wp2_with (go_at_call 7; refine (Skip.space_any c _).mono ?_; rintro e w' ⟨rfl, hw'⟩; subst w')
        go_ret
        exact ⟨rfl, hbel⟩
      · have hd : decide ((t : Int) < (len0 : Int)) = false := by simp; omega
        go_wp2_with (go_at_call 7; fail)
        go_ret
        exact ⟨rfl, hbel⟩

/-! ### THE ROW's STEP: WRITTEN OUT: LEAVE IT -/
set_option maxRecDepth 100000 in
theorem lifted (os : Os) (started : os.Started) (H : Type) (enc : TypeId × Value → H) :
    ReturnsInHanded {} Try.checked os 3 .any (Rows.fnSkipSpaceStopsAtFirstNonSpaceSpec.pre6 enc Try.prog Try.f3 Rows.fnSkipSpaceStopsAtFirstNonSpaceRow.domain false) (Rows.fnSkipSpaceStopsAtFirstNonSpaceSpec.post enc Try.prog Try.f3 false true false false) := by
  refine returnsInHanded_of_change (C := Try.checked) own started (by kernel_rfl) Try.func3
    (ChangeSpec.witness6 (enc := enc) (C := Try.checked) false ⟨#[], #[.slice none 0 0, .int .i64 0], []⟩ 8 (by kernel_rfl) (by kernel_rfl) (by kernel_rfl) (by kernel_rfl)) ?_
  intro W base args ds gs before hval0 hW hcnd _
  have hval : ∀ (j : Nat) t v, Try.f3.params[j]? = some t → args[j]? = some v → Value.okWide Try.prog W .any base t v := hval0
  have hW' := hW
  obtain ⟨p, q, hA0, hV, rfl, hfz, hnd⟩ := hW
  have hA : DataW.TrodAll enc Try.prog W 0 (fun _ => true) true Try.f3.params.toList args.toList ds p := hA0
  rw [Try.params3] at hA hval
  obtain ⟨v0, vs0, d0, ds0, p0, q0, hargs, rfl, rfl, h0, r0⟩ := trodAll_cons hA
  obtain ⟨v1, vs1, d1, ds1, p1, q1, rfl, rfl, rfl, h1, r1⟩ := trodAll_cons r0
  obtain ⟨rfl, rfl, rfl⟩ := trodAll_nil r1
  obtain rfl : args = #[v0, v1] := by cases args; simp_all
  obtain ⟨rfl, rfl⟩ := trodVars_none hV
  obtain ⟨a0, len0, cap0, rfl⟩ := okWide_slice Try.underlying22 (hval 0 22 v0 rfl rfl)
  have k0 := h0
  have lt0 : ∀ x ∈ p0, x.block < W.heap.size := by obtain ⟨m, hm⟩ := k0; exact DataW.trod_lt m _ _ _ hm
  obtain ⟨z0, w0⟩ : ∃ zs, IsRow .u8 W a0 len0 cap0 zs := by
    obtain ⟨fuel, hf⟩ := h0
    rcases open_ints Try.underlying22 Try.underlying5 (by kernel_rfl) hf with ⟨hcs, _⟩ | ⟨x, l, c, zs, hcs, _, hl, hm, hz, _, hcell, hwz⟩
    · simp [Value.cells] at hcs
      obtain ⟨rfl, rfl, rfl⟩ := hcs
      exact ⟨[], .inl ⟨rfl, rfl, rfl, rfl⟩⟩
    · simp [Value.cells] at hcs
      obtain ⟨rfl, rfl, rfl⟩ := hcs
      exact ⟨zs, .inr ⟨_, rfl, hl, hm, by simpa using hz, hcell, hwz⟩⟩
  obtain ⟨a1, rfl, rfl, rfl, w1⟩ := open_int Try.underlying3 (hval 1 3 v1 rfl rfl) h1
  clear hA0 hval0
  refine (walk a0 len0 cap0 z0 a1 W w0 w1).mono fun e W' ⟨he, bel⟩ => ?_
  subst he
  exact ⟨_, rfl, _, _, _, [], _, [], hW', trodAll_mk1 (shut_bool Try.underlying4 _), (trodAll_cons_mk (Below.trod laidOut (by kernel_rfl) (of_decide_eq_true (by kernel_rfl)) k0 bel lt0) (trodAll_cons_mk (shut_int Try.underlying3 w1) trodAll_mk0)), rfl, bel.frame _, fun h => by cases h⟩

theorem over : Rows.fnSkipSpaceStopsAtFirstNonSpaceRow.holds Try.pinned (OpenSpec.ofChange Rows.fnSkipSpaceStopsAtFirstNonSpaceSpec) :=
  OpenClaim.holds_of_wide 3 Try.f3 rfl rfl rfl rfl rfl rfl rfl ⟨rfl, rfl, rfl, rfl, rfl⟩ rfl rfl rfl rfl rfl (by kernel_rfl) Try.func3 (by kernel_rfl)
    (of_decide_eq_true (by kernel_rfl)) (by unfold Func.isWrapper; first | (rw [if_pos (by decide +kernel)]; kernel_rfl) | (rw [if_neg (by decide +kernel)]; exact ⟨rfl, rfl⟩))
    (fun os started H enc _ => lifted os started H enc)

/-- ████ THE STATEMENT ████ -/
theorem proved : Rows.FnSkipSpaceStopsAtFirstNonSpaceSaid := over
#print axioms proved
end Go.Proofs.Qxb6605578a.fnSkipSpaceStopsAtFirstNonSpace
