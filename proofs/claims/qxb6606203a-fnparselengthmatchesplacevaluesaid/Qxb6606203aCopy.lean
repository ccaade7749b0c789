import Derived.Test.Qxb6606203aParse
import Derived.Laws.CopyOwn
import Derived.Laws.Cover3
namespace Go.Proofs.Qxb6606203a.Parse
open Go.RowKit

/-- 'c := make([]byte, len(x)); copy(c, x)': what lies in the new row behind the copy; nothing old has turned. -/
theorem copy_made {P : Program} {sT e ty : TypeId} (hu : P.underlying sT = some (.slice e)) (hs : (P.info? e).map (·.size) = some 1)
    {w w1 : World} {n cap : Nat} {x : Addr} {zs : List Int} {xs : List Value} (hlz : n ≤ zs.length)
    (hcell : ∀ i, i < zs.length → w.cell? (x.add i) = some (.int .u8 (zs.getD i 0)))
    (hown : w1.ownsRow w.heap.size e 1 (.slice (some ⟨w.heap.size, 0, none⟩) n n) n xs) (hgrow : w.grownBy w1 none) :
    ∃ w2, (Builtin.copy_ #[sT, sT] ty #[.slice (some ⟨w.heap.size, 0, none⟩) n n, .slice (some x) n cap]).run P w1 = .ok (goInt n) w2 ∧
      (∀ t, t < n → w2.cell? ⟨w.heap.size, t, none⟩ = some (.int .u8 (zs.getD t 0))) ∧ Below w.heap.size w w2 := by
  have hb : Below w.heap.size w w1 := (Below.refl _ _).grown hgrow (Nat.le_refl _) (by intro k h; cases h)
  rcases hown.2 with ⟨h', _⟩ | ⟨g, cap', cur, h', _, hg, _, _, hsz, _⟩
  · simp at h'
  · simp only [Value.slice.injEq, Option.some.injEq, Addr.mk.injEq, and_true, true_and] at h'
    obtain ⟨rfl, rfl⟩ := h'
    have hlen : ((zs.take n).map (Value.int .u8)).length = n := by simp; omega
    have hget : ∀ j, j < n → ((zs.take n).map (Value.int .u8))[j]? = some (.int .u8 (zs.getD j 0)) := by
      intro j hj
      simp [hj, show j < zs.length by omega]
    have hsrc : ∀ j v, ((zs.take n).map (Value.int .u8))[j]? = some v → w1.cell? (x.add j) = some v := by
      intro j v hv
      have hj : j < n := by have := (List.getElem?_eq_some_iff.1 hv).1; omega
      rw [hget j hj] at hv
      have hc := hcell j (by omega)
      rw [hgrow.cell hc (by simp), ← hv]
    have hrun := run_copy_row (P := P) w1 sT sT ty e w.heap.size 0 n n x n cap cur e ((zs.take n).map (Value.int .u8)) hu hs hg (by rw [hlen]; exact (Nat.min_self n).symm) hsrc (by rw [hlen]; omega) (ints_oneCell _ _)
    rw [hlen] at hrun
    refine ⟨_, hrun, fun t ht => ?_, below_setRow hb (Nat.le_refl _) _⟩
    rw [cell_setRow_same w1 w.heap.size t cur _ e (0, 0) hg]
    simp only [List.take_zero, List.nil_append, List.getElem?_toArray]
    rw [List.getElem?_append_left (by rw [hlen]; exact ht)]
    exact hget t ht

theorem info5 : (Try.prog.info? 5).map (fun i => (i.zero, i.size, i.bytes)) = some (some (.int .u8 0), 1, 1) := by kernel_rfl
theorem size5 : (Try.prog.info? 5).map (·.size) = some 1 := by kernel_rfl

/-! ### The sum of digit times place, right to left -/
def p10 (k : Nat) : Int := 10 ^ k
/-- The last k of n digits, each times its place. -/
def tail (z : Nat → Int) (n : Nat) : Nat → Int
  | 0 => 0
  | k + 1 => tail z n k + (z (n - 1 - k) - 48) * p10 k

theorem p10_pos (k : Nat) : 1 ≤ p10 k := pow_pos k
theorem p10_17 {k : Nat} (h : k ≤ 17) : p10 k ≤ 100000000000000000 := by
  have := pow_le h
  have c : (10 : Int) ^ 17 = 100000000000000000 := by decide
  unfold p10
  omega

theorem p10_step {n m : Nat} (h : m < n) : p10 (n - m) = p10 (n - (m + 1)) * 10 := by
  rw [show n - m = (n - (m + 1)) + 1 by omega]
  exact Int.pow_succ _ _

theorem tail_step (z : Nat → Int) {n m : Nat} (h : m < n) : tail z n (n - m) = tail z n (n - (m + 1)) + (z m - 48) * p10 (n - (m + 1)) := by
  rw [show n - m = (n - (m + 1)) + 1 by omega]
  show tail z n (n - (m + 1)) + (z (n - 1 - (n - (m + 1))) - 48) * p10 (n - (m + 1)) = _
  rw [show n - 1 - (n - (m + 1)) = m by omega]

theorem prod_bd {c p : Int} (h1 : 48 ≤ c) (h2 : c ≤ 57) (hp : 1 ≤ p) : 0 ≤ (c - 48) * p ∧ (c - 48) * p ≤ 9 * p :=
  ⟨Int.mul_nonneg (by omega) (by omega), Int.mul_le_mul_of_nonneg_right (by omega) (by omega)⟩

theorem tail_bd (z : Nat → Int) (n k : Nat) (hk : k ≤ n) (h : ∀ t, n - k ≤ t → t < n → Dig (z t)) : 0 ≤ tail z n k ∧ tail z n k < p10 k := by
  induction k with
  | zero => simp [tail, p10]
  | succ k ih =>
    have a := ih (by omega) fun t h1 h2 => h t (by omega) h2
    obtain ⟨d1, d2⟩ := h (n - 1 - k) (by omega) (by omega)
    have b := prod_bd d1 d2 (p10_pos k)
    have e : p10 (k + 1) = p10 k * 10 := Int.pow_succ _ _
    show 0 ≤ tail z n k + (z (n - 1 - k) - 48) * p10 k ∧ tail z n k + (z (n - 1 - k) - 48) * p10 k < p10 (k + 1)
    omega

theorem val_tail (z : Nat → Int) (n k : Nat) (hk : k ≤ n) : val z n = val z (n - k) * p10 k + tail z n k := by
  induction k with
  | zero => simp [tail, p10]
  | succ k ih =>
    rw [ih (by omega)]
    have e : p10 (k + 1) = p10 k * 10 := Int.pow_succ _ _
    rw [show n - k = (n - (k + 1)) + 1 by omega, e]
    show (val z (n - (k + 1)) * 10 + (z (n - (k + 1)) - 48)) * p10 k + tail z n k = val z (n - (k + 1)) * (p10 k * 10) + (tail z n k + (z (n - 1 - k) - 48) * p10 k)
    rw [show n - 1 - k = n - (k + 1) by omega, Int.add_mul, Int.mul_assoc, Int.mul_comm 10 (p10 k)]
    omega

theorem tail_val (z : Nat → Int) (n : Nat) : tail z n n = val z n := by
  have := val_tail z n n (Nat.le_refl _)
  rw [Nat.sub_self] at this
  simp [val] at this
  exact this.symm

theorem tail_dig {z : Nat → Int} {n m : Nat} (h : ∀ t, m + 1 ≤ t → t < n → Dig (z t)) (h1 : 48 ≤ z m) (h2 : z m ≤ 57) : ∀ t, m ≤ t → t < n → Dig (z t) := by
  intro t a b
  by_cases e : t = m
  · subst e; exact ⟨h1, h2⟩
  · exact h t (by omega) b
end Go.Proofs.Qxb6606203a.Parse
