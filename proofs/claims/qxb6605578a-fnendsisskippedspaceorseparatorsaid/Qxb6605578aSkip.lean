import Derived.Test.Qxb6605578aRows
import Derived.WalkKit
import Derived.ProofKit
import Derived.Below
import Derived.Laws.CopyOwn
namespace Go.Proofs.Qxb6605578a.Skip
open Go.RowKit

/-- The four bytes of white space. -/
def spB (c : Int) : Bool := decide (c = 32 ∨ c = 9 ∨ c = 10 ∨ c = 13)

theorem ret_bool {a b : Bool} (h : a = b) : Ending.returned (.bool a) = .returned (.bool b) := by rw [h]

set_option maxHeartbeats 400000 in
theorem space_any (c : Int) (w : World) :
    Calls Try.prog 7 #[.int .u8 c] w fun e w' => e = .returned (.bool (spB c)) ∧ w' = w := by
  go_enter Try.func7, Try.ntmps7
  go_wp2
  all_goals
    go_ret
    refine ⟨ret_bool ?_, rfl⟩
    rw [Bool.eq_iff_iff]
    simp [spB]
    omega

/-- skipSpace from a place at or behind the end: the place comes back. -/
theorem skip_past (a : Option Addr) (n cap : Nat) (i : Int) (w : World) (h : (n : Int) ≤ i) :
    Calls Try.prog 9 #[.slice a n cap, .int .i64 i] w fun e w' => e = .returned (.int .i64 i) ∧ w' = w := by
  have hd : decide (i < (n : Int)) = false := by simp; omega
  go_enter Try.func9, Try.ntmps9
  go_wp2
  refine wp_loop_rounds 1 ?_
  rw [rounds_succ]
  go_wp2
  go_ret
  exact ⟨rfl, rfl⟩

/-- What skipSpace finds from a place 'k' inside. -/
def Found (zs : List Int) (n k j : Nat) : Prop := k ≤ j ∧ j ≤ n ∧ (∀ t, k ≤ t → t < j → spB (zs.getD t 0) = true) ∧ (j < n → spB (zs.getD j 0) = false)

theorem found_step {zs : List Int} {k j : Nat} {c : Int} (h3 : ∀ t, k ≤ t → t < j → spB (zs.getD t 0) = true) (hc : c = zs.getD j 0) (hs : spB c = true) :
    ∀ t, k ≤ t → t < j + 1 → spB (zs.getD t 0) = true := by
  intro t h1 h2
  by_cases h : t = j
  · subst h; rw [← hc]; exact hs
  · exact h3 t h1 (by omega)

set_option maxHeartbeats 400000 in
theorem skip_in (b off n cap : Nat) (zs : List Int) (k : Nat) (w : World) (hk : k ≤ n) (hn : n ≤ 1048576) (hc : ∀ t, t < n → w.cell? ⟨b, off + t, none⟩ = some (.int .u8 (zs.getD t 0))) :
    Calls Try.prog 9 #[.slice (some ⟨b, off, none⟩) n cap, .int .i64 k] w fun e w' => ∃ j, e = .returned (.int .i64 ((j : Nat) : Int)) ∧ Found zs n k j ∧ w' = w := by
  go_enter Try.func9, Try.ntmps9
  go_wp2
  go_loop [1] (fun i => ∃ j : Nat, i = .int .i64 j ∧ k ≤ j ∧ j ≤ n ∧ ∀ t, k ≤ t → t < j → spB (zs.getD t 0) = true) (fun i => n - (intOf i).toNat)
  case atStart => exact ⟨k, rfl, Nat.le_refl _, hk, fun t h1 h2 => by omega⟩
  case round =>
    obtain ⟨j, rfl, h1, h2, h3⟩ := hrel
    have H3 : Hid (∀ t, k ≤ t → t < j → spB (zs.getD t 0) = true) := h3
    clear h3
    by_cases hlt : j < n
    · have hcell := hc j hlt
      obtain ⟨c, hcc⟩ : ∃ c, c = zs.getD j 0 := ⟨_, rfl⟩
      rw [← hcc] at hcell
      have HC : Hid (c = zs.getD j 0) := hcc
      clear hcc hc
      go_wp2
      all_goals first
        | (go_round
           case rel =>
             refine ⟨j + 1, by go_num, by omega, by omega, found_step H3.out HC.out ?_⟩
             simp only [beq_iff_eq, spB, decide_eq_true_eq] at *
             omega
           case measure => simp [intOf]; omega)
        | (go_ret
           refine ⟨j, rfl, ⟨h1, h2, H3.out, fun _ => ?_⟩, rfl⟩
           rw [← HC.out]
           simp only [beq_eq_false_iff_ne, spB, decide_eq_false_iff_not] at *
           omega)
    · have hd : decide ((j : Int) < (n : Int)) = false := by simp; omega
      clear hc
      go_wp2
      go_ret
      exact ⟨j, rfl, ⟨h1, h2, H3.out, fun h => absurd h hlt⟩, rfl⟩

/-! ### The wrapper ZZskipSpace -/
theorem zz_past (a : Option Addr) (n cap : Nat) (i : Int) (w : World) (h : (n : Int) ≤ i) :
    Calls Try.prog 6 #[.slice a n cap, .int .i64 i] w fun e w' => e = .returned (.int .i64 i) ∧ w' = w := by
  go_enter Try.func6, Try.ntmps6
  go_wp2_with (go_at_call 9; refine (skip_past a n cap i _ h).mono ?_; rintro e w' ⟨rfl, rfl⟩)
  go_ret
  exact ⟨rfl, rfl⟩

theorem zz_in (b off n cap : Nat) (zs : List Int) (k : Nat) (w : World) (hk : k ≤ n) (hn : n ≤ 1048576) (hc : ∀ t, t < n → w.cell? ⟨b, off + t, none⟩ = some (.int .u8 (zs.getD t 0))) :
    Calls Try.prog 6 #[.slice (some ⟨b, off, none⟩) n cap, .int .i64 k] w fun e w' => ∃ j, e = .returned (.int .i64 ((j : Nat) : Int)) ∧ Found zs n k j ∧ w' = w := by
  have h9 := hc
  have H9 : Hid (∀ t, t < n → w.cell? ⟨b, off + t, none⟩ = some (.int .u8 (zs.getD t 0))) := h9
  clear h9 hc
  go_enter Try.func6, Try.ntmps6
  go_wp2_with (go_at_call 9; refine (skip_in b off n cap zs k _ hk hn (by exact H9.out)).mono ?_; rintro e w' ⟨j, rfl, hf, rfl⟩)
  go_ret
  exact ⟨j, rfl, hf, rfl⟩

/-! ### zzBytes: the bound on the length -/
theorem bytes_no (a : Option Addr) (n cap : Nat) (i : Int) (w : World) (h : 1048576 < n) :
    Calls Try.prog 5 #[.slice a n cap, .int .i64 i] w fun e w' => e = .returned (.bool false) ∧ w' = w := by
  go_enter Try.func5, Try.ntmps5
  go_wp2
  go_ret
  exact ⟨rfl, rfl⟩

theorem bytes_yes (a : Option Addr) (n cap : Nat) (i : Int) (w : World) (h : n ≤ 1048576) :
    Calls Try.prog 5 #[.slice a n cap, .int .i64 i] w fun e w' => e = .returned (.bool true) ∧ w' = w := by
  go_enter Try.func5, Try.ntmps5
  go_wp2
  go_ret
  exact ⟨rfl, rfl⟩

/-! ### ends, ZZends -/
def endB (c : Int) : Bool := decide (c = 44 ∨ c = 125 ∨ c = 93) || spB c

set_option maxHeartbeats 400000 in
theorem ends_any (c : Int) (w : World) :
    Calls Try.prog 10 #[.int .u8 c] w fun e w' => e = .returned (.bool (endB c)) ∧ w' = w := by
  go_enter Try.func10, Try.ntmps10
  go_wp2
  all_goals
    go_ret
    refine ⟨ret_bool ?_, rfl⟩
    rw [Bool.eq_iff_iff]
    simp only [beq_iff_eq, beq_eq_false_iff_ne, ne_eq] at *
    simp [endB, spB]
    omega

theorem zends_any (c : Int) (w : World) :
    Calls Try.prog 8 #[.int .u8 c] w fun e w' => e = .returned (.bool (endB c)) ∧ w' = w := by
  go_enter Try.func8, Try.ntmps8
  go_wp2_with (go_at_call 10; refine (ends_any c _).mono ?_; rintro e w' ⟨rfl, rfl⟩)
  go_ret
  exact ⟨rfl, rfl⟩
/-! ### skipSpace over a text of one byte, from 0 -/
theorem zz_one_no (g : Nat) (c : Int) (w : World) (hs : spB c = false) (hc : w.cell? ⟨g, 0, none⟩ = some (.int .u8 c)) :
    Calls Try.prog 6 #[.slice (some ⟨g, 0, none⟩) 1 1, .int .i64 0] w fun e w' => e = .returned (.int .i64 0) ∧ w' = w := by
  refine (zz_in g 0 1 1 [c] 0 w (by omega) (by omega) (fun t ht => ?_)).mono ?_
  · obtain rfl : t = 0 := by omega
    simpa using hc
  · rintro e w' ⟨j, rfl, ⟨h1, h2, h3, h4⟩, rfl⟩
    refine ⟨?_, rfl⟩
    by_cases h : j = 0
    · subst h; rfl
    · have := h3 0 (by omega) (by omega)
      simp [hs] at this

theorem zz_one_yes (g : Nat) (c : Int) (w : World) (hs : spB c = true) (hc : w.cell? ⟨g, 0, none⟩ = some (.int .u8 c)) :
    Calls Try.prog 6 #[.slice (some ⟨g, 0, none⟩) 1 1, .int .i64 0] w fun e w' => e = .returned (.int .i64 1) ∧ w' = w := by
  refine (zz_in g 0 1 1 [c] 0 w (by omega) (by omega) (fun t ht => ?_)).mono ?_
  · obtain rfl : t = 0 := by omega
    simpa using hc
  · rintro e w' ⟨j, rfl, ⟨h1, h2, h3, h4⟩, rfl⟩
    refine ⟨?_, rfl⟩
    by_cases h : j = 0
    · subst h
      have := h4 (by omega)
      simp [hs] at this
    · obtain rfl : j = 1 := by omega
      rfl

theorem end_sep {c : Int} (h : c = 44 ∨ c = 125 ∨ c = 93) : endB c = true := by simp [endB, h]
theorem end_sp {c : Int} (h : spB c = true) : endB c = true := by simp [endB, h]
theorem end_law {c : Int} (h : spB c = false) : (endB c == (c == 44 || c == 125 || c == 93)) = true := by
  rw [beq_iff_eq, Bool.eq_iff_iff]
  simp [endB, h, or_assoc]
end Go.Proofs.Qxb6605578a.Skip
