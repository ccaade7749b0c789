import Derived.Test.Qxb6606203aRows
import Derived.WalkKit
import Derived.ProofKit
import Derived.Below
namespace Go.Proofs.Qxb6606203a.Hex
open Go.RowKit

/-- What hexValue answers. -/
def hexV (c : Int) : Int := if 48 ≤ c ∧ c ≤ 57 then c - 48 else if 97 ≤ c ∧ c ≤ 102 then c - 87 else if 65 ≤ c ∧ c ≤ 70 then c - 55 else -1

theorem ret_int {k : IntKind} {a b : Int} (h : a = b) : Ending.returned (.int k a) = .returned (.int k b) := by rw [h]
theorem ret_bool {a b : Bool} (h : a = b) : Ending.returned (.bool a) = .returned (.bool b) := by rw [h]

set_option maxHeartbeats 400000 in
theorem hex_any (c : Int) (w : World) (h0 : 0 ≤ c) (h1 : c ≤ 255) :
    Calls Try.prog 10 #[.int .u8 c] w fun e w' => e = .returned (.int .i64 (hexV c)) ∧ w' = w := by
  rcases (show (48 ≤ c ∧ c ≤ 57) ∨ (97 ≤ c ∧ c ≤ 102) ∨ (65 ≤ c ∧ c ≤ 70) ∨ c < 48 ∨ (57 < c ∧ c < 65) ∨ (70 < c ∧ c < 97) ∨ 102 < c from by omega) with ⟨a, b⟩ | ⟨a, b⟩ | ⟨a, b⟩ | a | ⟨a, b⟩ | ⟨a, b⟩ | a
  all_goals
    go_enter Try.func10, Try.ntmps10
    go_wp2
    go_ret
    refine ⟨ret_int ?_, rfl⟩
    unfold hexV
    omega

theorem zhex_any (c : Int) (w : World) (h0 : 0 ≤ c) (h1 : c ≤ 255) :
    Calls Try.prog 7 #[.int .u8 c] w fun e w' => e = .returned (.int .i64 (hexV c)) ∧ w' = w := by
  go_enter Try.func7, Try.ntmps7
  go_wp2_with (go_at_call 10; refine (hex_any c _ h0 h1).mono ?_; rintro e w' ⟨rfl, hw'⟩; subst w')
  go_ret
  exact ⟨rfl, rfl⟩
/-- The bytes of the two tables of digits. -/
def lo (t : Nat) : Int := if t < 10 then 48 + t else 87 + t
def up (t : Nat) : Int := if t < 10 then 48 + t else 55 + t

theorem lo_at (t : Nat) (h : t < ByteArray.size ⟨#[48, 49, 50, 51, 52, 53, 54, 55, 56, 57, 97, 98, 99, 100, 101, 102]⟩) :
    (((ByteArray.mk #[48, 49, 50, 51, 52, 53, 54, 55, 56, 57, 97, 98, 99, 100, 101, 102])[t]'h).toNat : Int) = lo t := by
  have h16 : t < 16 := h
  match t, h16 with
  | 0, _ | 1, _ | 2, _ | 3, _ | 4, _ | 5, _ | 6, _ | 7, _ | 8, _ | 9, _ | 10, _ | 11, _ | 12, _ | 13, _ | 14, _ | 15, _ => rfl
  | n + 16, hh => omega

theorem up_at (t : Nat) (h : t < ByteArray.size ⟨#[48, 49, 50, 51, 52, 53, 54, 55, 56, 57, 65, 66, 67, 68, 69, 70]⟩) :
    (((ByteArray.mk #[48, 49, 50, 51, 52, 53, 54, 55, 56, 57, 65, 66, 67, 68, 69, 70])[t]'h).toNat : Int) = up t := by
  have h16 : t < 16 := h
  match t, h16 with
  | 0, _ | 1, _ | 2, _ | 3, _ | 4, _ | 5, _ | 6, _ | 7, _ | 8, _ | 9, _ | 10, _ | 11, _ | 12, _ | 13, _ | 14, _ | 15, _ => rfl
  | n + 16, hh => omega

theorem lo_bd {t : Nat} (h : t < 16) : 0 ≤ lo t ∧ lo t ≤ 255 := by unfold lo; split <;> omega
theorem up_bd {t : Nat} (h : t < 16) : 0 ≤ up t ∧ up t ≤ 255 := by unfold up; split <;> omega
theorem hex_lo {t : Nat} (h : t < 16) : hexV (lo t) = t := by unfold hexV lo; omega
theorem hex_up {t : Nat} (h : t < 16) : hexV (up t) = t := by unfold hexV up; omega
theorem hex_none {c : Int} (h : ∀ u, u < 16 → ¬ c = lo u ∧ ¬ c = up u) : hexV c = -1 := by
  have a := h (c - 48).toNat
  have b := h (c - 87).toNat
  have d := h (c - 55).toNat
  unfold lo up at a b d
  unfold hexV
  omega
theorem none_step {c : Int} {t : Nat} (h : ∀ u, u < t → ¬ c = lo u ∧ ¬ c = up u) (h1 : ¬ c = lo t) (h2 : ¬ c = up t) : ∀ u, u < t + 1 → ¬ c = lo u ∧ ¬ c = up u := by
  intro u hu
  by_cases e : u = t
  · subst e; exact ⟨h1, h2⟩
  · exact h u (by omega)
end Go.Proofs.Qxb6606203a.Hex
