import Derived.Test.Qxb6606388aRows
import Derived.Test.Qxb6606388aPlain
import Derived.WalkKit
import Derived.ProofKit
import Derived.WalkSpells
namespace Go.Proofs.Qxb6606388a.Skip
open Go.RowKit
open Go.Proofs.Qxb6606388a.Plain (zs two_eq S S_succ)

theorem ret_int {k : IntKind} {a b : Int} (h : a = b) : Ending.returned (.int k a) = .returned (.int k b) := by rw [h]

theorem open_yes {s : ByteArray} {j : Nat} (h : j + 1 < s.size) (ho : zs s j = 47 ∧ zs s (j + 1) = 42) : ((s.extract j (j + 2)).toList == [47, 42]) = true := by
  rw [two_eq s j h]; exact decide_eq_true ho
theorem open_no {s : ByteArray} {j : Nat} (h : j + 1 < s.size) (ho : ¬ (zs s j = 47 ∧ zs s (j + 1) = 42)) : ((s.extract j (j + 2)).toList == [47, 42]) = false := by
  rw [two_eq s j h]; exact decide_eq_false ho
theorem close_yes {s : ByteArray} {j : Nat} (h : j + 1 < s.size) (ho : zs s j = 42 ∧ zs s (j + 1) = 47) : ((s.extract j (j + 2)).toList == [42, 47]) = true := by
  rw [two_eq s j h]; exact decide_eq_true ho
theorem close_no {s : ByteArray} {j : Nat} (h : j + 1 < s.size) (ho : ¬ (zs s j = 42 ∧ zs s (j + 1) = 47)) : ((s.extract j (j + 2)).toList == [42, 47]) = false := by
  rw [two_eq s j h]; exact decide_eq_false ho

set_option maxHeartbeats 800000 in
theorem skip_any (s : ByteArray) (i : Nat) (w : World) (hs : s.size ≤ 131072) (hi : i ≤ s.size) :
    Calls Try.prog 11 #[.string s, .int .i64 i] w fun e w' => e = .returned (.int .i64 (S (zs s) s.size 0 i : Nat)) ∧ w' = w := by
  obtain ⟨R, hR⟩ : ∃ R, R = S (zs s) s.size 0 i := ⟨_, rfl⟩
  rw [← hR]
  have HR : Hid (R = S (zs s) s.size 0 i) := hR
  clear hR
  go_enter Try.func11, Try.ntmps11
  go_wp2_with fail
  go_loop [5, 6] (fun dp jj => ∃ (d : Int) (j : Nat), dp = .int .i64 d ∧ jj = .int .i64 j ∧ j ≤ s.size ∧ -(j : Int) ≤ d ∧ d ≤ j ∧ Hid (R = S (zs s) s.size d j)) (fun _ jj => s.size - (intOf jj).toNat)
  case atStart => exact ⟨0, i, rfl, rfl, hi, by omega, by omega, HR⟩
  case round =>
    clear HR
    obtain ⟨d, j, rfl, rfl, h2, h3, h4, HR⟩ := hrel
    by_cases hlt : j + 1 < s.size
    · by_cases ho : zs s j = 47 ∧ zs s (j + 1) = 42
      · have t1 := open_yes hlt ho
        have HN : Hid (R = S (zs s) s.size (d + 1) (j + 2)) := by show R = _; rw [HR.out, S_succ, if_pos hlt, if_pos ho]
        clear ho HR
        go_wp2_with fail
        go_round
        case rel => exact ⟨d + 1, j + 2, rfl, by go_num, by omega, by omega, by omega, HN⟩
        case measure => simp [intOf]; omega
      · have t1 := open_no hlt ho
        by_cases hc : zs s j = 42 ∧ zs s (j + 1) = 47
        · have t2 := close_yes hlt hc
          by_cases hd : d - 1 = 0
          · have t3 : (d - 1 == 0) = true := beq_iff_eq.2 hd
            have HN : Hid (R = j + 2) := by show R = _; rw [HR.out, S_succ, if_pos hlt, if_neg ho, if_pos hc, if_pos hd]
            clear ho hc HR hd
            go_wp2_with fail
            go_ret
            exact ⟨ret_int (by rw [HN.out]; omega), rfl⟩
          · have t3 : (d - 1 == 0) = false := beq_eq_false_iff_ne.2 hd
            have HN : Hid (R = S (zs s) s.size (d - 1) (j + 2)) := by show R = _; rw [HR.out, S_succ, if_pos hlt, if_neg ho, if_pos hc, if_neg hd]
            clear ho hc HR hd
            go_wp2_with fail
            go_round
            case rel => exact ⟨d - 1, j + 2, rfl, by go_num, by omega, by omega, by omega, HN⟩
            case measure => simp [intOf]; omega
        · have t2 := close_no hlt hc
          have HN : Hid (R = S (zs s) s.size d (j + 1)) := by show R = _; rw [HR.out, S_succ, if_pos hlt, if_neg ho, if_neg hc]
          clear ho hc HR
          go_wp2_with fail
          go_round
          case rel => exact ⟨d, j + 1, rfl, by go_num, by omega, by omega, by omega, HN⟩
          case measure => simp [intOf]; omega
    · have HN : Hid (R = s.size) := by show R = _; rw [HR.out, S_succ, if_neg hlt]
      clear HR
      go_wp2_with fail
      go_ret
      exact ⟨ret_int (by rw [HN.out]), rfl⟩

theorem zz_any (s : ByteArray) (i : Nat) (w : World) (hs : s.size ≤ 131072) (hi : i ≤ s.size) :
    Calls Try.prog 7 #[.string s, .int .i64 i] w fun e w' => e = .returned (.int .i64 (S (zs s) s.size 0 i : Nat)) ∧ w' = w := by
  go_enter Try.func7, Try.ntmps7
  go_wp2_with (go_at_call 11; refine (skip_any s i _ hs hi).mono ?_; rintro e w' ⟨rfl, hw'⟩; subst w')
  go_ret
  exact ⟨rfl, rfl⟩

/-! ### zzBytes of the shift law: the bound on the lengths -/
theorem bytes9_yes (p c : ByteArray) (i : Int) (w : World) (hp : p.size ≤ 65536) (hc : c.size ≤ 65536) :
    Calls Try.prog 9 #[.string p, .string c, .int .i64 i] w fun e w' => e = .returned (.bool true) ∧ w' = w := by
  go_enter Try.func9, Try.ntmps9
  go_wp2_with fail
  go_ret
  exact ⟨rfl, rfl⟩

theorem bytes9_any (p c : ByteArray) (i : Int) (w : World) (hp : p.size ≤ maxLen) (hc : c.size ≤ maxLen) :
    Calls Try.prog 9 #[.string p, .string c, .int .i64 i] w fun e w' => (∃ b, e = .returned (.bool b)) ∧ w' = w := by
  unfold maxLen at hp hc
  go_enter Try.func9, Try.ntmps9
  go_wp2_with fail
  all_goals
    go_ret
    exact ⟨⟨_, rfl⟩, rfl⟩

theorem bytes6_yes (c : ByteArray) (i : Int) (w : World) (hc : c.size ≤ 65536) :
    Calls Try.prog 6 #[.string c, .int .i64 i] w fun e w' => e = .returned (.bool true) ∧ w' = w := by
  go_enter Try.func6, Try.ntmps6
  go_wp2_with fail
  go_ret
  exact ⟨rfl, rfl⟩

theorem bytes6_any (c : ByteArray) (i : Int) (w : World) (hc : c.size ≤ maxLen) :
    Calls Try.prog 6 #[.string c, .int .i64 i] w fun e w' => (∃ b, e = .returned (.bool b)) ∧ w' = w := by
  unfold maxLen at hc
  go_enter Try.func6, Try.ntmps6
  go_wp2_with fail
  all_goals
    go_ret
    exact ⟨⟨_, rfl⟩, rfl⟩

theorem zs_append (p c : ByteArray) (t : Nat) : zs (p ++ c) (t + p.size) = zs c t := by
  unfold zs
  have e : (p ++ c).data.toList = p.data.toList ++ c.data.toList := by simp [ByteArray.data_append]
  have l : p.data.toList.length = p.size := by simp
  rw [e, List.getD_eq_getElem?_getD, List.getElem?_append_right (by omega), List.getD_eq_getElem?_getD, l, show t + p.size - p.size = t by omega]

theorem zz_cat (p c : ByteArray) (k R : Nat) (w : World) (hp : p.size ≤ 65536) (hc : c.size ≤ 65536) (hk : k ≤ c.size) (h : S (zs (p ++ c)) (c.size + p.size) 0 (k + p.size) = R + p.size) :
    Calls Try.prog 7 #[.string (p ++ c), .int .i64 ((k : Int) + (p.size : Int))] w fun e w' => e = .returned (.int .i64 ((R : Int) + (p.size : Int))) ∧ w' = w := by
  have l : (p ++ c).size = c.size + p.size := by rw [ByteArray.size_append]; omega
  have a := zz_any (p ++ c) (k + p.size) w (by omega) (by omega)
  rw [l, h, show ((k + p.size : Nat) : Int) = (k : Int) + (p.size : Int) by omega, show ((R + p.size : Nat) : Int) = (R : Int) + (p.size : Int) by omega] at a
  exact a
end Go.Proofs.Qxb6606388a.Skip
