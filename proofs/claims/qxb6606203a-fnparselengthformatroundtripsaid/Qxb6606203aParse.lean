import Derived.Test.Qxb6606203aRows
import Derived.WalkKit
import Derived.ProofKit
import Derived.Below
namespace Go.Proofs.Qxb6606203a.Parse
open Go.RowKit

/-! ### Plain numbers -/
/-- The byte c is a decimal digit. -/
def Dig (c : Int) : Prop := 48 ≤ c ∧ c ≤ 57
/-- What the first k digits read as. -/
def val (z : Nat → Int) : Nat → Int
  | 0 => 0
  | k + 1 => val z k * 10 + (z k - 48)

theorem val_bd (z : Nat → Int) (k : Nat) (h : ∀ t, t < k → Dig (z t)) : 0 ≤ val z k ∧ val z k < 10 ^ k := by
  induction k with
  | zero => simp [val]
  | succ k ih =>
    have a := ih fun t ht => h t (by omega)
    have b : Dig (z k) := h k (by omega)
    unfold Dig at b
    rw [Int.pow_succ]
    show 0 ≤ val z k * 10 + (z k - 48) ∧ val z k * 10 + (z k - 48) < 10 ^ k * 10
    omega

theorem pow_le {k m : Nat} (h : k ≤ m) : (10 : Int) ^ k ≤ 10 ^ m := by
  have := Nat.pow_le_pow_right (n := 10) (by omega) h
  have e1 : ((10 ^ k : Nat) : Int) = (10 : Int) ^ k := by simp
  have e2 : ((10 ^ m : Nat) : Int) = (10 : Int) ^ m := by simp
  omega

theorem pow_pos (k : Nat) : (1 : Int) ≤ 10 ^ k := pow_le (Nat.zero_le k)

theorem val_17 (z : Nat → Int) (k : Nat) (hk : k ≤ 17) (h : ∀ t, t < k → Dig (z t)) : 0 ≤ val z k ∧ val z k ≤ 99999999999999999 := by
  have a := val_bd z k h
  have b := pow_le hk
  have c : (10 : Int) ^ 17 = 100000000000000000 := by decide
  omega

theorem dig_step {z : Nat → Int} {t : Nat} (h : ∀ u, u < t → Dig (z u)) (h1 : 48 ≤ z t) (h2 : z t ≤ 57) : ∀ u, u < t + 1 → Dig (z u) := by
  intro u hu
  by_cases e : u = t
  · subst e; exact ⟨h1, h2⟩
  · exact h u (by omega)

/-! ### isDigits -/
set_option maxHeartbeats 400000 in
theorem digits_yes (b off n cap : Nat) (z : Nat → Int) (w : World) (hn : n ≤ 18) (hc : ∀ t, t < n → w.cell? ⟨b, off + t, none⟩ = some (.int .u8 (z t))) (hd : ∀ t, t < n → Dig (z t)) :
    Calls Try.prog 12 #[.slice (some ⟨b, off, none⟩) n cap] w fun e w' => e = .returned (.bool true) ∧ w' = w := by
  have HC : Hid (∀ t, t < n → w.cell? ⟨b, off + t, none⟩ = some (.int .u8 (z t))) := hc
  have HD : Hid (∀ t, t < n → Dig (z t)) := hd
  clear hc hd
  go_enter Try.func12, Try.ntmps12
  go_wp2
  go_loop [7] (fun i => ∃ t : Nat, i = .int .i64 t ∧ t ≤ n) (fun i => n - (intOf i).toNat)
  case atStart => exact ⟨0, rfl, by omega⟩
  case round =>
    obtain ⟨t, rfl, ht⟩ := hrel
    by_cases hlt : t < n
    · have hcell := HC.out t hlt
      obtain ⟨d1, d2⟩ := HD.out t hlt
      obtain ⟨c, hcc⟩ : ∃ c, c = z t := ⟨_, rfl⟩
      rw [← hcc] at hcell d1 d2
      clear hcc
      go_wp2
      go_round
      case rel => exact ⟨t + 1, by go_num, by omega⟩
      case measure => simp [intOf]; omega
    · go_wp2
      go_ret
      exact ⟨rfl, rfl⟩

set_option maxHeartbeats 400000 in
theorem digits_no (b off n cap : Nat) (z : Nat → Int) (w : World) (hn : n ≤ 18) (hc : ∀ t, t < n → w.cell? ⟨b, off + t, none⟩ = some (.int .u8 (z t))) (q : Nat) (hq : q < n) (hbad : ¬ Dig (z q)) :
    Calls Try.prog 12 #[.slice (some ⟨b, off, none⟩) n cap] w fun e w' => e = .returned (.bool false) ∧ w' = w := by
  have HC : Hid (∀ t, t < n → w.cell? ⟨b, off + t, none⟩ = some (.int .u8 (z t))) := hc
  have HB : Hid (¬ Dig (z q)) := hbad
  clear hc hbad
  go_enter Try.func12, Try.ntmps12
  go_wp2
  go_loop [7] (fun i => ∃ t : Nat, i = .int .i64 t ∧ t ≤ q) (fun i => n - (intOf i).toNat)
  case atStart => exact ⟨0, rfl, by omega⟩
  case round =>
    obtain ⟨t, rfl, ht⟩ := hrel
    have hlt : t < n := by omega
    have hcell := HC.out t hlt
    by_cases he : t = q
    · subst he
      have hb := HB.out
      unfold Dig at hb
      obtain ⟨c, hcc⟩ : ∃ c, c = z t := ⟨_, rfl⟩
      rw [← hcc] at hcell hb
      clear hcc HB
      by_cases h1 : c < 48
      · go_wp2
        go_ret
        exact ⟨rfl, rfl⟩
      · have h2 : 57 < c := by omega
        go_wp2
        go_ret
        exact ⟨rfl, rfl⟩
    · obtain ⟨c, hcc⟩ : ∃ c, c = z t := ⟨_, rfl⟩
      rw [← hcc] at hcell
      clear hcc
      by_cases hdg : 48 ≤ c ∧ c ≤ 57
      · obtain ⟨d1, d2⟩ := hdg
        go_wp2
        go_round
        case rel => exact ⟨t + 1, by go_num, by omega⟩
        case measure => simp [intOf]; omega
      · by_cases h1 : c < 48
        · go_wp2
          go_ret
          exact ⟨rfl, rfl⟩
        · have h2 : 57 < c := by omega
          go_wp2
          go_ret
          exact ⟨rfl, rfl⟩

/-! ### parseLength -/
theorem parse_len (a : Option Addr) (n cap : Nat) (w : World) (hm : n ≤ 1048576) (h : n = 0 ∨ 18 < n) :
    Calls Try.prog 11 #[.slice a n cap] w fun e w' => e = .returned (.tuple #[.int .i64 0, .bool false]) ∧ w' = w := by
  rcases h with rfl | h
  · go_enter Try.func11, Try.ntmps11
    go_wp2_with fail
    go_ret2
    exact ⟨rfl, rfl⟩
  · have h0 : ((n : Int) == 0) = false := beq_eq_false_iff_ne.2 (by omega)
    go_enter Try.func11, Try.ntmps11
    go_wp2_with fail
    go_ret2
    exact ⟨rfl, rfl⟩

theorem parse_no (b off n cap : Nat) (z : Nat → Int) (w : World) (h0 : 1 ≤ n) (hn : n ≤ 18) (hc : ∀ t, t < n → w.cell? ⟨b, off + t, none⟩ = some (.int .u8 (z t))) (q : Nat) (hq : q < n) (hbad : ¬ Dig (z q)) :
    Calls Try.prog 11 #[.slice (some ⟨b, off, none⟩) n cap] w fun e w' => e = .returned (.tuple #[.int .i64 0, .bool false]) ∧ w' = w := by
  have HC : Hid (∀ t, t < n → w.cell? ⟨b, off + t, none⟩ = some (.int .u8 (z t))) := hc
  have HB : Hid (¬ Dig (z q)) := hbad
  clear hc hbad
  have e0 : ((n : Int) == 0) = false := beq_eq_false_iff_ne.2 (by omega)
  have e1 : decide ((18 : Int) < (n : Int)) = false := by simp; omega
  go_enter Try.func11, Try.ntmps11
  go_wp2_with (go_at_call 12; refine (digits_no b off n cap z _ hn (by exact HC.out) q hq HB.out).mono ?_; rintro e w' ⟨rfl, hw'⟩; subst w')
  go_ret2
  exact ⟨rfl, rfl⟩

set_option maxHeartbeats 400000 in
theorem parse_yes (b off n cap : Nat) (z : Nat → Int) (w : World) (h0 : 1 ≤ n) (hn : n ≤ 18) (hc : ∀ t, t < n → w.cell? ⟨b, off + t, none⟩ = some (.int .u8 (z t))) (hd : ∀ t, t < n → Dig (z t)) :
    Calls Try.prog 11 #[.slice (some ⟨b, off, none⟩) n cap] w fun e w' => e = .returned (.tuple #[.int .i64 (val z n), .bool true]) ∧ w' = w := by
  have HC : Hid (∀ t, t < n → w.cell? ⟨b, off + t, none⟩ = some (.int .u8 (z t))) := hc
  have HD : Hid (∀ t, t < n → Dig (z t)) := hd
  clear hc hd
  have e0 : ((n : Int) == 0) = false := beq_eq_false_iff_ne.2 (by omega)
  have e1 : decide ((18 : Int) < (n : Int)) = false := by simp; omega
  go_enter Try.func11, Try.ntmps11
  go_wp2_with (go_at_call 12; refine (digits_yes b off n cap z _ hn (by exact HC.out) HD.out).mono ?_; rintro e w' ⟨rfl, hw'⟩; subst w')
  go_loop [4, 22] (fun v i => ∃ t : Nat, i = .int .i64 t ∧ t ≤ n ∧ v = .int .i64 (val z t)) (fun _ i => n - (intOf i).toNat)
  case atStart => exact ⟨0, rfl, by omega, rfl⟩
  case round =>
    obtain ⟨t, rfl, ht, rfl⟩ := hrel
    by_cases hlt : t < n
    · have hcell := HC.out t hlt
      obtain ⟨d1, d2⟩ := HD.out t hlt
      obtain ⟨v0, v1⟩ := val_17 z t (by omega) (fun u hu => HD.out u (by omega))
      have HV : Hid (val z (t + 1) = val z t * 10 + (z t - 48)) := rfl
      obtain ⟨c, hcc⟩ : ∃ c, c = z t := ⟨_, rfl⟩
      obtain ⟨v, hvv⟩ : ∃ v, v = val z t := ⟨_, rfl⟩
      rw [← hcc] at hcell d1 d2 HV
      rw [← hvv] at v0 v1 HV
      rw [← hvv]
      clear hcc hvv
      go_wp2
      go_round
      case rel => exact ⟨t + 1, by go_num, by omega, by rw [HV.out]⟩
      case measure => simp [intOf]; omega
    · obtain rfl : t = n := by omega
      go_wp2
      go_ret2
      exact ⟨rfl, rfl⟩

/-! ### The wrapper ZZparseLength -/
theorem zz_len (a : Option Addr) (n cap : Nat) (w : World) (hm : n ≤ 1048576) (h : n = 0 ∨ 18 < n) :
    Calls Try.prog 9 #[.slice a n cap] w fun e w' => e = .returned (.tuple #[.int .i64 0, .bool false]) ∧ w' = w := by
  have H : Hid (n = 0 ∨ 18 < n) := h
  clear h
  go_enter Try.func9, Try.ntmps9
  go_wp2_with (go_at_call 11; refine (parse_len a n cap _ hm H.out).mono ?_; rintro e w' ⟨rfl, hw'⟩; subst w')
  go_ret2
  exact ⟨rfl, rfl⟩

theorem zz_no (b off n cap : Nat) (z : Nat → Int) (w : World) (h0 : 1 ≤ n) (hn : n ≤ 18) (hc : ∀ t, t < n → w.cell? ⟨b, off + t, none⟩ = some (.int .u8 (z t))) (q : Nat) (hq : q < n) (hbad : ¬ Dig (z q)) :
    Calls Try.prog 9 #[.slice (some ⟨b, off, none⟩) n cap] w fun e w' => e = .returned (.tuple #[.int .i64 0, .bool false]) ∧ w' = w := by
  have HC : Hid (∀ t, t < n → w.cell? ⟨b, off + t, none⟩ = some (.int .u8 (z t))) := hc
  have HB : Hid (¬ Dig (z q)) := hbad
  clear hc hbad
  go_enter Try.func9, Try.ntmps9
  go_wp2_with (go_at_call 11; refine (parse_no b off n cap z _ h0 hn (by exact HC.out) q hq HB.out).mono ?_; rintro e w' ⟨rfl, hw'⟩; subst w')
  go_ret2
  exact ⟨rfl, rfl⟩

theorem zz_yes (b off n cap : Nat) (z : Nat → Int) (w : World) (h0 : 1 ≤ n) (hn : n ≤ 18) (hc : ∀ t, t < n → w.cell? ⟨b, off + t, none⟩ = some (.int .u8 (z t))) (hd : ∀ t, t < n → Dig (z t)) :
    Calls Try.prog 9 #[.slice (some ⟨b, off, none⟩) n cap] w fun e w' => e = .returned (.tuple #[.int .i64 (val z n), .bool true]) ∧ w' = w := by
  have HC : Hid (∀ t, t < n → w.cell? ⟨b, off + t, none⟩ = some (.int .u8 (z t))) := hc
  have HD : Hid (∀ t, t < n → Dig (z t)) := hd
  clear hc hd
  go_enter Try.func9, Try.ntmps9
  go_wp2_with (go_at_call 11; refine (parse_yes b off n cap z _ h0 hn (by exact HC.out) HD.out).mono ?_; rintro e w' ⟨rfl, hw'⟩; subst w')
  go_ret2
  exact ⟨rfl, rfl⟩

/-! ### zzBytes: the bound on the length -/
theorem bytes_no (a : Option Addr) (n cap : Nat) (w : World) (h : 1048576 < n) :
    Calls Try.prog 8 #[.slice a n cap] w fun e w' => e = .returned (.bool false) ∧ w' = w := by
  go_enter Try.func8, Try.ntmps8
  go_wp2
  go_ret
  exact ⟨rfl, rfl⟩

theorem bytes_yes (a : Option Addr) (n cap : Nat) (w : World) (h : n ≤ 1048576) :
    Calls Try.prog 8 #[.slice a n cap] w fun e w' => e = .returned (.bool true) ∧ w' = w := by
  go_enter Try.func8, Try.ntmps8
  go_wp2
  go_ret
  exact ⟨rfl, rfl⟩
end Go.Proofs.Qxb6606203a.Parse
