import Derived.Test.Qxb6605578aRows
import Derived.WalkKit
import Derived.ProofKit
import Derived.Below
import Derived.Laws.CopyOwn
import Derived.Laws.Cover3
namespace Go.Proofs.Qxb6605578a.Skip
open Go.RowKit

/-- 'c := make([]byte, len(x)); copy(c, x)': what lies in the new row behind the copy; nothing old has turned. -/
theorem copy_made {P : Program} {sT e ty : TypeId} (hu : P.underlying sT = some (.slice e)) (hs : (P.info? e).map (·.size) = some 1)
    {w w1 : World} {n cap : Nat} {x : Addr} {zs : List Int} {xs : List Value} (hlz : n ≤ zs.length)
    (hcell : ∀ i, i < zs.length → w.cell? (x.add i) = some (.int .u8 (zs.getD i 0)))
    (hown : w1.ownsRow w.heap.size e 1 (.slice (some ⟨w.heap.size, 0, none⟩) n n) n xs) (hgrow : w.grownBy w1 none) :
    ∃ w2, (Builtin.copy_ #[sT, sT] ty #[.slice (some ⟨w.heap.size, 0, none⟩) n n, .slice (some x) n cap]).run P w1 = .ok (goInt n) w2 ∧
      (∀ t, t < n → w2.cell? ⟨w.heap.size, t, none⟩ = some (.int .u8 (zs.getD t 0))) ∧ Below w.heap.size w w2 := by
  have hb : Below w.heap.size w w1 := (Below.refl _ _).grown hgrow (Nat.le_refl _) (by intro k h; cases h)
  rcases hown.2 with ⟨h', _⟩ | ⟨g, cap', cur, h', _, hg, _, _, hsz, _⟩
  · simp at h'
  · simp only [Value.slice.injEq, Option.some.injEq, Addr.mk.injEq, and_true, true_and] at h'
    obtain ⟨rfl, rfl⟩ := h'
    have hlen : ((zs.take n).map (Value.int .u8)).length = n := by simp; omega
    have hget : ∀ j, j < n → ((zs.take n).map (Value.int .u8))[j]? = some (.int .u8 (zs.getD j 0)) := by
      intro j hj
      simp [hj, show j < zs.length by omega]
    have hsrc : ∀ j v, ((zs.take n).map (Value.int .u8))[j]? = some v → w1.cell? (x.add j) = some v := by
      intro j v hv
      have hj : j < n := by have := (List.getElem?_eq_some_iff.1 hv).1; omega
      rw [hget j hj] at hv
      have hc := hcell j (by omega)
      rw [hgrow.cell hc (by simp), ← hv]
    have hrun := run_copy_row (P := P) w1 sT sT ty e w.heap.size 0 n n x n cap cur e ((zs.take n).map (Value.int .u8)) hu hs hg (by rw [hlen]; exact (Nat.min_self n).symm) hsrc (by rw [hlen]; omega) (ints_oneCell _ _)
    rw [hlen] at hrun
    refine ⟨_, hrun, fun t ht => ?_, below_setRow hb (Nat.le_refl _) _⟩
    rw [cell_setRow_same w1 w.heap.size t cur _ e (0, 0) hg]
    simp only [List.take_zero, List.nil_append, List.getElem?_toArray]
    rw [List.getElem?_append_left (by rw [hlen]; exact ht)]
    exact hget t ht

theorem info5 : (Try.prog.info? 5).map (fun i => (i.zero, i.size, i.bytes)) = some (some (.int .u8 0), 1, 1) := by kernel_rfl

theorem size5 : (Try.prog.info? 5).map (·.size) = some 1 := by kernel_rfl

/-- The four bytes of white space. -/
def spB (c : Int) : Bool := decide (c = 32 ∨ c = 9 ∨ c = 10 ∨ c = 13)

theorem ret_bool {a b : Bool} (h : a = b) : Ending.returned (.bool a) = .returned (.bool b) := by rw [h]

set_option maxHeartbeats 400000 in
theorem space_any (c : Int) (w : World) :
    Calls Try.prog 7 #[.int .u8 c] w fun e w' => e = .returned (.bool (spB c)) ∧ w' = w := by
  go_enter Try.func7, Try.ntmps7
  go_wp2
  all_goals
    go_ret
    refine ⟨ret_bool ?_, rfl⟩
    rw [Bool.eq_iff_iff]
    simp [spB]
    omega

/-- skipSpace from a place at or behind the end: the place comes back. -/
theorem skip_past (a : Option Addr) (n cap : Nat) (i : Int) (w : World) (h : (n : Int) ≤ i) :
    Calls Try.prog 9 #[.slice a n cap, .int .i64 i] w fun e w' => e = .returned (.int .i64 i) ∧ w' = w := by
  have hd : decide (i < (n : Int)) = false := by simp; omega
  go_enter Try.func9, Try.ntmps9
  go_wp2
  refine wp_loop_rounds 1 ?_
  rw [rounds_succ]
  go_wp2
  go_ret
  exact ⟨rfl, rfl⟩

/-- What skipSpace finds from a place 'k' inside. -/
def Found (zs : List Int) (n k j : Nat) : Prop := k ≤ j ∧ j ≤ n ∧ (∀ t, k ≤ t → t < j → spB (zs.getD t 0) = true) ∧ (j < n → spB (zs.getD j 0) = false)

theorem found_step {zs : List Int} {k j : Nat} {c : Int} (h3 : ∀ t, k ≤ t → t < j → spB (zs.getD t 0) = true) (hc : c = zs.getD j 0) (hs : spB c = true) :
    ∀ t, k ≤ t → t < j + 1 → spB (zs.getD t 0) = true := by
  intro t h1 h2
  by_cases h : t = j
  · subst h; rw [← hc]; exact hs
  · exact h3 t h1 (by omega)

set_option maxHeartbeats 400000 in
theorem skip_in (b off n cap : Nat) (zs : List Int) (k : Nat) (w : World) (hk : k ≤ n) (hn : n ≤ 1048576) (hc : ∀ t, t < n → w.cell? ⟨b, off + t, none⟩ = some (.int .u8 (zs.getD t 0))) :
    Calls Try.prog 9 #[.slice (some ⟨b, off, none⟩) n cap, .int .i64 k] w fun e w' => ∃ j, e = .returned (.int .i64 ((j : Nat) : Int)) ∧ Found zs n k j ∧ w' = w := by
  go_enter Try.func9, Try.ntmps9
  go_wp2
  go_loop [1] (fun i => ∃ j : Nat, i = .int .i64 j ∧ k ≤ j ∧ j ≤ n ∧ ∀ t, k ≤ t → t < j → spB (zs.getD t 0) = true) (fun i => n - (intOf i).toNat)
  case atStart => exact ⟨k, rfl, Nat.le_refl _, hk, fun t h1 h2 => by omega⟩
  case round =>
    obtain ⟨j, rfl, h1, h2, h3⟩ := hrel
    have H3 : Hid (∀ t, k ≤ t → t < j → spB (zs.getD t 0) = true) := h3
    clear h3
    by_cases hlt : j < n
    · have hcell := hc j hlt
      obtain ⟨c, hcc⟩ : ∃ c, c = zs.getD j 0 := ⟨_, rfl⟩
      rw [← hcc] at hcell
      have HC : Hid (c = zs.getD j 0) := hcc
      clear hcc hc
      go_wp2
      all_goals first
        | (go_round
           case rel =>
             refine ⟨j + 1, by go_num, by omega, by omega, found_step H3.out HC.out ?_⟩
             simp only [beq_iff_eq, spB, decide_eq_true_eq] at *
             omega
           case measure => simp [intOf]; omega)
        | (go_ret
           refine ⟨j, rfl, ⟨h1, h2, H3.out, fun _ => ?_⟩, rfl⟩
           rw [← HC.out]
           simp only [beq_eq_false_iff_ne, spB, decide_eq_false_iff_not] at *
           omega)
    · have hd : decide ((j : Int) < (n : Int)) = false := by simp; omega
      clear hc
      go_wp2
      go_ret
      exact ⟨j, rfl, ⟨h1, h2, H3.out, fun h => absurd h hlt⟩, rfl⟩

/-! ### The wrapper ZZskipSpace -/
theorem zz_past (a : Option Addr) (n cap : Nat) (i : Int) (w : World) (h : (n : Int) ≤ i) :
    Calls Try.prog 6 #[.slice a n cap, .int .i64 i] w fun e w' => e = .returned (.int .i64 i) ∧ w' = w := by
  go_enter Try.func6, Try.ntmps6
  go_wp2_with (go_at_call 9; refine (skip_past a n cap i _ h).mono ?_; rintro e w' ⟨rfl, rfl⟩)
  go_ret
  exact ⟨rfl, rfl⟩

theorem zz_in (b off n cap : Nat) (zs : List Int) (k : Nat) (w : World) (hk : k ≤ n) (hn : n ≤ 1048576) (hc : ∀ t, t < n → w.cell? ⟨b, off + t, none⟩ = some (.int .u8 (zs.getD t 0))) :
    Calls Try.prog 6 #[.slice (some ⟨b, off, none⟩) n cap, .int .i64 k] w fun e w' => ∃ j, e = .returned (.int .i64 ((j : Nat) : Int)) ∧ Found zs n k j ∧ w' = w := by
  have h9 := hc
  have H9 : Hid (∀ t, t < n → w.cell? ⟨b, off + t, none⟩ = some (.int .u8 (zs.getD t 0))) := h9
  clear h9 hc
  go_enter Try.func6, Try.ntmps6
  go_wp2_with (go_at_call 9; refine (skip_in b off n cap zs k _ hk hn (by exact H9.out)).mono ?_; rintro e w' ⟨j, rfl, hf, rfl⟩)
  go_ret
  exact ⟨j, rfl, hf, rfl⟩

/-! ### zzBytes: the bound on the length -/
theorem bytes_no (a : Option Addr) (n cap : Nat) (i : Int) (w : World) (h : 1048576 < n) :
    Calls Try.prog 5 #[.slice a n cap, .int .i64 i] w fun e w' => e = .returned (.bool false) ∧ w' = w := by
  go_enter Try.func5, Try.ntmps5
  go_wp2
  go_ret
  exact ⟨rfl, rfl⟩

theorem bytes_yes (a : Option Addr) (n cap : Nat) (i : Int) (w : World) (h : n ≤ 1048576) :
    Calls Try.prog 5 #[.slice a n cap, .int .i64 i] w fun e w' => e = .returned (.bool true) ∧ w' = w := by
  go_enter Try.func5, Try.ntmps5
  go_wp2
  go_ret
  exact ⟨rfl, rfl⟩

/-! ### ends, ZZends -/
def endB (c : Int) : Bool := decide (c = 44 ∨ c = 125 ∨ c = 93) || spB c

set_option maxHeartbeats 400000 in
theorem ends_any (c : Int) (w : World) :
    Calls Try.prog 10 #[.int .u8 c] w fun e w' => e = .returned (.bool (endB c)) ∧ w' = w := by
  go_enter Try.func10, Try.ntmps10
  go_wp2
  all_goals
    go_ret
    refine ⟨ret_bool ?_, rfl⟩
    rw [Bool.eq_iff_iff]
    simp only [beq_iff_eq, beq_eq_false_iff_ne, ne_eq] at *
    simp [endB, spB]
    omega

theorem zends_any (c : Int) (w : World) :
    Calls Try.prog 8 #[.int .u8 c] w fun e w' => e = .returned (.bool (endB c)) ∧ w' = w := by
  go_enter Try.func8, Try.ntmps8
  go_wp2_with (go_at_call 10; refine (ends_any c _).mono ?_; rintro e w' ⟨rfl, rfl⟩)
  go_ret
  exact ⟨rfl, rfl⟩
/-! ### skipSpace over a text of one byte, from 0 -/
theorem zz_one_no (g : Nat) (c : Int) (w : World) (hs : spB c = false) (hc : w.cell? ⟨g, 0, none⟩ = some (.int .u8 c)) :
    Calls Try.prog 6 #[.slice (some ⟨g, 0, none⟩) 1 1, .int .i64 0] w fun e w' => e = .returned (.int .i64 0) ∧ w' = w := by
  refine (zz_in g 0 1 1 [c] 0 w (by omega) (by omega) (fun t ht => ?_)).mono ?_
  · obtain rfl : t = 0 := by omega
    simpa using hc
  · rintro e w' ⟨j, rfl, ⟨h1, h2, h3, h4⟩, rfl⟩
    refine ⟨?_, rfl⟩
    by_cases h : j = 0
    · subst h; rfl
    · have := h3 0 (by omega) (by omega)
      simp [hs] at this

theorem zz_one_yes (g : Nat) (c : Int) (w : World) (hs : spB c = true) (hc : w.cell? ⟨g, 0, none⟩ = some (.int .u8 c)) :
    Calls Try.prog 6 #[.slice (some ⟨g, 0, none⟩) 1 1, .int .i64 0] w fun e w' => e = .returned (.int .i64 1) ∧ w' = w := by
  refine (zz_in g 0 1 1 [c] 0 w (by omega) (by omega) (fun t ht => ?_)).mono ?_
  · obtain rfl : t = 0 := by omega
    simpa using hc
  · rintro e w' ⟨j, rfl, ⟨h1, h2, h3, h4⟩, rfl⟩
    refine ⟨?_, rfl⟩
    by_cases h : j = 0
    · subst h
      have := h4 (by omega)
      simp [hs] at this
    · obtain rfl : j = 1 := by omega
      rfl

theorem end_sep {c : Int} (h : c = 44 ∨ c = 125 ∨ c = 93) : endB c = true := by simp [endB, h]
theorem end_sp {c : Int} (h : spB c = true) : endB c = true := by simp [endB, h]
theorem end_law {c : Int} (h : spB c = false) : (endB c == (c == 44 || c == 125 || c == 93)) = true := by
  rw [beq_iff_eq, Bool.eq_iff_iff]
  simp [endB, h, or_assoc]
end Go.Proofs.Qxb6605578a.Skip
