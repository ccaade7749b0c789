/-
  The frame: written by the guide's program (proof-skeleton.mjs) for this statement. The walk is filled in.
-/
import Derived.Test.Qxb6606203aRows
import Derived.Test.Qxb6606203aCopy
import Derived.WalkKit
import Derived.ProofKit
import Derived.OpenShut
import Derived.ShutString
import Derived.ChangeOld
import Derived.Below
namespace Go.Proofs.Qxb6606203a.fnParseLengthMatchesPlaceValue
open Go.ChangeShapes Go.WideShapes Go.ChangeAt Go.RowKit
open Go.ChangeMaps (open_string shut_string)
set_option linter.unusedVariables false

theorem own : ownKnob Try.prog.godebug = none := by kernel_rfl
theorem laidOut : laidOutB Try.prog = true := by kernel_rfl

/-- WHAT THE WALK IS TOLD OF A SLICE OF INTEGERS THAT CAME IN: it is nil; or it leads to a row of 'cap' cells, the numbers 'zs' (the first 'len' are its elements, the rest its spare room), each fitting its kind. -/
def IsRow (k : IntKind) (w : World) (a : Option Addr) (len cap : Nat) (zs : List Int) : Prop :=
  (a = none ∧ len = 0 ∧ cap = 0 ∧ zs = []) ∨
  ∃ x, a = some x ∧ len ≤ cap ∧ cap ≤ maxLen ∧ zs.length = cap ∧ (∀ i, i < zs.length → w.cell? (x.add i) = some (.int k (zs.getD i 0))) ∧ ∀ n ∈ zs, (Lit.int k n).wf = true

/-! ### STEP 1: THE WALK: the Go text returns true, AND WRITES NOTHING THAT WAS THERE: 'Below w.heap.size w w'' (Derived/Below.lean: '.refl', '.alloc', '.drew', '.setCell' at a new block, '.trans'). Open each 'IsRow' by 'rcases' AHEAD of 'go_enter'; part every test ahead of the walk. -/
theorem walk (a0 : Option Addr) (len0 cap0 : Nat) (z0 : List Int) (w : World) (w0 : IsRow .u8 w a0 len0 cap0 z0) :
    Calls Try.prog 5 #[.slice a0 len0 cap0] w fun e w' => e = .returned (.bool true) ∧ Below w.heap.size w w' := by
  by_cases hbig : 1048576 < len0
  · go_enter Try.func5, Try.ntmps5
    go_wp2_with (go_at_call 8; refine (Parse.bytes_no _ _ _ _ hbig).mono ?_; rintro e w' ⟨rfl, hw'⟩; subst w')
    go_ret
    exact ⟨rfl, Below.refl _ _⟩
  have hn : len0 ≤ 1048576 := by omega
  clear hbig
  rcases w0 with ⟨rfl, rfl, rfl, rfl⟩ | ⟨x, rfl, hl, hm, hz, hcell, hwz⟩
  · -- the nil slice
    have hne : ∀ W : World, (binOp .neq 26 (.slice none 0 0) (.slice none 0 0)).run Try.prog W = .ok (.bool false) W := fun W => run_neq_slice_nil W 26 5 none 0 0 Try.underlying26
    go_enter Try.func5, Try.ntmps5
    go_wp2_with (first | (go_at_call 8; refine (Parse.bytes_yes _ _ _ _ hn).mono ?_; rintro e w' ⟨rfl, hw'⟩; subst w') | (go_at_call 9; refine (Parse.zz_len none 0 0 _ hn (.inl rfl)).mono ?_; rintro e w' ⟨rfl, hw'⟩; subst w'))
    go_ret
    exact ⟨rfl, Below.refl _ _⟩
  -- not nil: a copy is made
  have HC : Hid (∀ i, i < z0.length → w.cell? (x.add i) = some (.int .u8 (z0.getD i 0))) := hcell
  have HZ : Hid (z0.length = cap0) := hz
  clear hcell hwz hz
  have hne : ∀ W : World, (binOp .neq 26 (.slice (some x) len0 cap0) (.slice none 0 0)).run Try.prog W = .ok (.bool true) W := fun W => run_neq_slice_nil W 26 5 (some x) len0 cap0 Try.underlying26
  obtain ⟨i0, hi, hz0, hz1, hz2⟩ := info_parts Parse.info5
  have hb1 : i0.bytes * len0 ≤ 281474976710656 := by rw [hz2]; omega
  have hb2 : len0 ≤ maxLen := by unfold maxLen; omega
  clear hz2
  by_cases h18 : 18 < len0
  · -- too long for parseLength
    have hd : decide ((len0 : Int) ≤ 18) = false := by simp; omega
    go_enter Try.func5, Try.ntmps5
    go_wp2_with (first | (go_at_call 8; refine (Parse.bytes_yes _ _ _ _ hn).mono ?_; rintro e w' ⟨rfl, hw'⟩; subst w') | (at_make; refine wpList_make_full _ rfl _ _ 26 rfl w.heap.size 5 i0 (.int .u8 0) 1 Try.underlying26 hi hz0 hz1 _ _ _ _ len0 rfl rfl rfl rfl hb1 hb2 (Nat.le_refl _) ?_; intro w1 hown hgrow))
    obtain ⟨w2, hrun, HC2, hbel⟩ := Parse.copy_made (cap := cap0) (ty := 3) Try.underlying26 Parse.size5 (by have := HZ.out; omega) HC.out hown hgrow
    rw [hrun]
    clear hrun hown hgrow HC2
    go_wp2_with (go_at_call 9; refine (Parse.zz_len _ len0 len0 _ hn (.inr h18)).mono ?_; rintro e w' ⟨rfl, hw'⟩; subst w')
    go_ret
    exact ⟨rfl, hbel⟩
  by_cases h00 : len0 = 0
  · -- empty, not nil
    have HL : Hid (len0 = 0) := h00
    have hd : (len0 : Int) < 1 := by omega
    clear h00
    go_enter Try.func5, Try.ntmps5
    go_wp2_with (first | (go_at_call 8; refine (Parse.bytes_yes _ _ _ _ hn).mono ?_; rintro e w' ⟨rfl, hw'⟩; subst w') | (at_make; refine wpList_make_full _ rfl _ _ 26 rfl w.heap.size 5 i0 (.int .u8 0) 1 Try.underlying26 hi hz0 hz1 _ _ _ _ len0 rfl rfl rfl rfl hb1 hb2 (Nat.le_refl _) ?_; intro w1 hown hgrow))
    obtain ⟨w2, hrun, HC2, hbel⟩ := Parse.copy_made (cap := cap0) (ty := 3) Try.underlying26 Parse.size5 (by have := HZ.out; omega) HC.out hown hgrow
    rw [hrun]
    clear hrun hown hgrow HC2
    go_wp2_with (go_at_call 9; refine (Parse.zz_len _ len0 len0 _ hn (.inl HL.out)).mono ?_; rintro e w' ⟨rfl, hw'⟩; subst w')
    go_ret
    exact ⟨rfl, hbel⟩
  -- 1 to 18 bytes
  have h1 : 1 ≤ len0 := by omega
  have hn18 : len0 ≤ 18 := by omega
  have d1 : decide ((1 : Int) ≤ (len0 : Int)) = true := by simp; omega
  have d2 : decide ((len0 : Int) ≤ 18) = true := by simp; omega
  clear h18 h00
  obtain ⟨z, hzz⟩ : ∃ z : Nat → Int, z = fun t => z0.getD t 0 := ⟨_, rfl⟩
  have HZZ : Hid (z = fun t => z0.getD t 0) := hzz
  clear hzz
  go_enter Try.func5, Try.ntmps5
  go_wp2_with (first | (go_at_call 8; refine (Parse.bytes_yes _ _ _ _ hn).mono ?_; rintro e w' ⟨rfl, hw'⟩; subst w') | (at_make; refine wpList_make_full _ rfl _ _ 26 rfl w.heap.size 5 i0 (.int .u8 0) 1 Try.underlying26 hi hz0 hz1 _ _ _ _ len0 rfl rfl rfl rfl hb1 hb2 (Nat.le_refl _) ?_; intro w1 hown hgrow))
  obtain ⟨w2, hrun, HC2, hbel⟩ := Parse.copy_made (cap := cap0) (ty := 3) Try.underlying26 Parse.size5 (by have := HZ.out; omega) HC.out hown hgrow
  rw [hrun]
  have HC3 : Hid (∀ t, t < len0 → w2.cell? ⟨w.heap.size, t, none⟩ = some (.int .u8 (z t))) := by rw [HZZ.out]; exact HC2
  clear hrun hown hgrow HC2 HZZ HC HZ hne hi hz0 hz1 hb1 hb2 hm hl i0
  go_wp2_with fail
  go_loop [4, 5, 6, 7] (fun want ok place i => ok = .bool true ∧ ∃ m : Nat, m ≤ len0 ∧ i = .int .i64 ((m : Int) - 1) ∧ want = .int .i64 (Parse.tail z len0 (len0 - m)) ∧ place = .int .i64 (Parse.p10 (len0 - m)) ∧ Hid (∀ t, m ≤ t → t < len0 → Parse.Dig (z t))) (fun _ _ _ i => (intOf i + 1).toNat)
  case atStart => exact ⟨rfl, len0, Nat.le_refl _, rfl, by rw [Nat.sub_self]; rfl, by rw [Nat.sub_self]; rfl, fun t a b => by omega⟩
  case round =>
    obtain ⟨rfl, m, hm, rfl, rfl, rfl, HD⟩ := hrel
    cases m with
    | zero =>
      -- every digit has been read
      have hfin : Parse.tail z len0 len0 = Parse.val z len0 := Parse.tail_val z len0
      rw [Nat.sub_zero, hfin]
      clear hfin
      rw [show ((0 : Nat) : Int) - 1 = -1 from rfl]
      go_wp2_with (go_at_call 9; refine (Parse.zz_yes w.heap.size 0 len0 len0 z _ h1 hn18 (by intro t ht; rw [Nat.zero_add]; exact HC3.out t ht) (fun t ht => HD.out t (Nat.zero_le _) ht)).mono ?_; rintro e w' ⟨rfl, hw'⟩; subst w')
      go_ret
      exact ⟨by simp, hbel⟩
    | succ m =>
      rw [show ((m + 1 : Nat) : Int) - 1 = (m : Int) by omega]
      have hcell := HC3.out m (by omega)
      have HS := Parse.tail_step z (n := len0) (m := m) (by omega)
      have HP := Parse.p10_step (n := len0) (m := m) (by omega)
      have HB := Parse.tail_bd z len0 (len0 - (m + 1)) (by omega) (fun t a b => HD.out t (by omega) b)
      have HQ := Parse.p10_pos (len0 - (m + 1))
      have HR := Parse.p10_17 (k := len0 - (m + 1)) (by omega)
      have HG := Parse.tail_dig (z := z) (n := len0) (m := m) HD.out
      obtain ⟨c, hcc⟩ : ∃ c, c = z m := ⟨_, rfl⟩
      obtain ⟨p, hpp⟩ : ∃ p, p = Parse.p10 (len0 - (m + 1)) := ⟨_, rfl⟩
      obtain ⟨v, hvv⟩ : ∃ v, v = Parse.tail z len0 (len0 - (m + 1)) := ⟨_, rfl⟩
      rw [← hcc] at hcell HS HG
      rw [← hpp] at HS HP HB HQ HR
      rw [← hvv] at HS HB
      rw [← hpp, ← hvv]
      have HC4 : Hid (c = z m) := hcc
      have HS' : Hid (Parse.tail z len0 (len0 - m) = v + (c - 48) * p) := HS
      have HP' : Hid (Parse.p10 (len0 - m) = p * 10) := HP
      have HG' : Hid (48 ≤ c → c ≤ 57 → ∀ t, m ≤ t → t < len0 → Parse.Dig (z t)) := HG
      obtain ⟨hv0, hv1⟩ := HB
      clear hcc hpp hvv HS HP HG
      by_cases hdg : 48 ≤ c ∧ c ≤ 57
      · obtain ⟨g1, g2⟩ := hdg
        obtain ⟨hpr0, hpr1⟩ := Parse.prod_bd g1 g2 HQ
        go_wp2_with fail
        go_round
        case rel =>
          exact ⟨rfl, m, by omega, rfl, by rw [HS'.out], by rw [HP'.out], HG'.out g1 g2⟩
        case measure => simp [intOf]
      · have hbad : Hid (¬ Parse.Dig (z m)) := by rw [← HC4.out]; exact hdg
        by_cases g1 : c < 48
        · go_wp2_with (go_at_call 9; refine (Parse.zz_no w.heap.size 0 len0 len0 z _ h1 hn18 (by intro t ht; rw [Nat.zero_add]; exact HC3.out t ht) m (by omega) hbad.out).mono ?_; rintro e w' ⟨rfl, hw'⟩; subst w')
          go_ret
          exact ⟨rfl, hbel⟩
        · have g2 : 57 < c := by omega
          clear hdg
          go_wp2_with (go_at_call 9; refine (Parse.zz_no w.heap.size 0 len0 len0 z _ h1 hn18 (by intro t ht; rw [Nat.zero_add]; exact HC3.out t ht) m (by omega) hbad.out).mono ?_; rintro e w' ⟨rfl, hw'⟩; subst w')
          go_ret
          exact ⟨rfl, hbel⟩

/-! ### THE ROW's STEP: WRITTEN OUT: LEAVE IT -/
set_option maxRecDepth 100000 in
theorem lifted (os : Os) (started : os.Started) (H : Type) (enc : TypeId × Value → H) :
    ReturnsInHanded {} Try.checked os 5 .any (Rows.fnParseLengthMatchesPlaceValueSpec.pre6 enc Try.prog Try.f5 Rows.fnParseLengthMatchesPlaceValueRow.domain false) (Rows.fnParseLengthMatchesPlaceValueSpec.post enc Try.prog Try.f5 false true false false) := by
  refine returnsInHanded_of_change (C := Try.checked) own started (by kernel_rfl) Try.func5
    (ChangeSpec.witness6 (enc := enc) (C := Try.checked) false ⟨#[], #[.slice none 0 0], []⟩ 8 (by kernel_rfl) (by kernel_rfl) (by kernel_rfl) (by kernel_rfl)) ?_
  intro W base args ds gs before hval0 hW hcnd _
  have hval : ∀ (j : Nat) t v, Try.f5.params[j]? = some t → args[j]? = some v → Value.okWide Try.prog W .any base t v := hval0
  have hW' := hW
  obtain ⟨p, q, hA0, hV, rfl, hfz, hnd⟩ := hW
  have hA : DataW.TrodAll enc Try.prog W 0 (fun _ => true) true Try.f5.params.toList args.toList ds p := hA0
  rw [Try.params5] at hA hval
  obtain ⟨v0, vs0, d0, ds0, p0, q0, hargs, rfl, rfl, h0, r0⟩ := trodAll_cons hA
  obtain ⟨rfl, rfl, rfl⟩ := trodAll_nil r0
  obtain rfl : args = #[v0] := by cases args; simp_all
  obtain ⟨rfl, rfl⟩ := trodVars_none hV
  obtain ⟨a0, len0, cap0, rfl⟩ := okWide_slice Try.underlying26 (hval 0 26 v0 rfl rfl)
  have k0 := h0
  have lt0 : ∀ x ∈ p0, x.block < W.heap.size := by obtain ⟨m, hm⟩ := k0; exact DataW.trod_lt m _ _ _ hm
  obtain ⟨z0, w0⟩ : ∃ zs, IsRow .u8 W a0 len0 cap0 zs := by
    obtain ⟨fuel, hf⟩ := h0
    rcases open_ints Try.underlying26 Try.underlying5 (by kernel_rfl) hf with ⟨hcs, _⟩ | ⟨x, l, c, zs, hcs, _, hl, hm, hz, _, hcell, hwz⟩
    · simp [Value.cells] at hcs
      obtain ⟨rfl, rfl, rfl⟩ := hcs
      exact ⟨[], .inl ⟨rfl, rfl, rfl, rfl⟩⟩
    · simp [Value.cells] at hcs
      obtain ⟨rfl, rfl, rfl⟩ := hcs
      exact ⟨zs, .inr ⟨_, rfl, hl, hm, by simpa using hz, hcell, hwz⟩⟩
  clear hA0 hval0
  refine (walk a0 len0 cap0 z0 W w0).mono fun e W' ⟨he, bel⟩ => ?_
  subst he
  exact ⟨_, rfl, _, _, _, [], _, [], hW', trodAll_mk1 (shut_bool Try.underlying4 _), (trodAll_cons_mk (Below.trod laidOut (by kernel_rfl) (of_decide_eq_true (by kernel_rfl)) k0 bel lt0) trodAll_mk0), rfl, bel.frame _, fun h => by cases h⟩

theorem over : Rows.fnParseLengthMatchesPlaceValueRow.holds Try.pinned (OpenSpec.ofChange Rows.fnParseLengthMatchesPlaceValueSpec) :=
  OpenClaim.holds_of_wide 5 Try.f5 rfl rfl rfl rfl rfl rfl rfl ⟨rfl, rfl, rfl, rfl, rfl⟩ rfl rfl rfl rfl rfl (by kernel_rfl) Try.func5 (by kernel_rfl)
    (of_decide_eq_true (by kernel_rfl)) (by unfold Func.isWrapper; first | (rw [if_pos (by decide +kernel)]; kernel_rfl) | (rw [if_neg (by decide +kernel)]; exact ⟨rfl, rfl⟩))
    (fun os started H enc _ => lifted os started H enc)

/-- ████ THE STATEMENT ████ -/
theorem proved : Rows.FnParseLengthMatchesPlaceValueSaid := over
#print axioms proved
end Go.Proofs.Qxb6606203a.fnParseLengthMatchesPlaceValue
