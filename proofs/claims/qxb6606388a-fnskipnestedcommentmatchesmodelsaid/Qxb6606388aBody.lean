import Derived.Test.Qxb6606388aSkip
namespace Go.Proofs.Qxb6606388a.Body
open Go.RowKit
open Go.Proofs.Qxb6606388a.Plain (zs zs_at B B_succ B_range)
open Go.Proofs.Qxb6606388a.Skip (ret_int)

set_option maxHeartbeats 800000 in
/-- The parser by recursive descent, by induction on the bytes that are left. -/
theorem body_any (s : ByteArray) (hs : s.size ≤ 131072) (m : Nat) : ∀ (i : Nat) (w : World), s.size ≤ i + m → i ≤ s.size →
    Calls Try.prog 8 #[.string s, .int .i64 (i : Int)] w fun e w' => e = .returned (.int .i64 (B (zs s) s.size i)) ∧ w' = w := by
  induction m with
  | zero =>
    intro i w hm hi
    have HN : Hid (B (zs s) s.size i = -1) := by show _ = _; rw [B_succ, if_neg (by omega)]
    go_enter Try.func8, Try.ntmps8
    go_wp2_with fail
    refine wp_loop_rounds 1 ?_
    rw [rounds_succ]
    go_wp2_with fail
    go_ret
    exact ⟨ret_int (by rw [HN.out]), rfl⟩
  | succ m ih =>
    intro i w hm hi
    have IH : Hid (∀ (i : Nat) (w : World), s.size ≤ i + m → i ≤ s.size → Calls Try.prog 8 #[.string s, .int .i64 (i : Int)] w fun e w' => e = .returned (.int .i64 (B (zs s) s.size i)) ∧ w' = w) := ih
    clear ih
    obtain ⟨R, hR⟩ : ∃ R, R = B (zs s) s.size i := ⟨_, rfl⟩
    rw [← hR]
    have HR : Hid (R = B (zs s) s.size i) := hR
    clear hR
    go_enter Try.func8, Try.ntmps8
    go_wp2_with fail
    go_loop [1] (fun kk => ∃ k : Nat, kk = .int .i64 k ∧ i ≤ k ∧ k ≤ s.size ∧ Hid (R = B (zs s) s.size k)) (fun kk => s.size - (intOf kk).toNat)
    case atStart => exact ⟨i, rfl, by omega, hi, HR⟩
    case round =>
      clear HR
      obtain ⟨k, rfl, h1, h2, HR⟩ := hrel
      by_cases hlt : k + 1 < s.size
      · have z0 := zs_at s k
        have z1 := zs_at s (k + 1)
        by_cases hc : zs s k = 42 ∧ zs s (k + 1) = 47
        · have HN : Hid (R = (k : Int) + 2) := by show R = _; rw [HR.out, B_succ, if_pos hlt, if_pos hc]
          obtain ⟨c0, c1⟩ := hc
          go_wp2_with fail
          go_ret
          exact ⟨ret_int (by rw [HN.out]), rfl⟩
        · by_cases ho : zs s k = 47 ∧ zs s (k + 1) = 42
          · have HN : Hid (R = if B (zs s) s.size (k + 2) < 0 then -1 else B (zs s) s.size (B (zs s) s.size (k + 2)).toNat) := by
              show R = _
              rw [HR.out]
              conv => lhs; rw [B_succ, if_pos hlt, if_neg hc, if_pos ho]
            have hr := B_range (zs s) s.size (k + 2)
            obtain ⟨q, hq⟩ : ∃ q, q = B (zs s) s.size (k + 2) := ⟨_, rfl⟩
            rw [← hq] at HN hr
            have HQ : Hid (q = B (zs s) s.size (k + 2)) := hq
            obtain ⟨c0, c1⟩ := ho
            clear hq hc
            have e2 : ((k : Int) + 2) = ((k + 2 : Nat) : Int) := by omega
            have HE2 : Hid (((k : Int) + 2) = ((k + 2 : Nat) : Int)) := e2
            clear e2
            by_cases hneg : q < 0
            · have hq1 : q = -1 := by omega
              have HQ1 : Hid (q = -1) := hq1
              clear hq1 hr
              go_wp2_with (go_at_call 8; rw [HE2.out]; refine (IH.out (k + 2) _ (by omega) (by omega)).mono ?_; rintro e w' ⟨rfl, hw'⟩; subst w'; rw [← HQ.out])
              go_ret
              exact ⟨ret_int (by rw [HN.out, if_pos hneg]), rfl⟩
            · have hq2 : (k : Int) + 4 ≤ q := by omega
              have hq3 : q ≤ s.size := by omega
              obtain ⟨t, ht⟩ := Int.eq_ofNat_of_zero_le (show 0 ≤ q by omega)
              subst ht
              clear hr hneg
              go_wp2_with (go_at_call 8; rw [HE2.out]; refine (IH.out (k + 2) _ (by omega) (by omega)).mono ?_; rintro e w' ⟨rfl, hw'⟩; subst w'; rw [← HQ.out])
              go_round
              case rel => exact ⟨t, rfl, by omega, by omega, HN.out.trans (by rw [if_neg (by omega), Int.toNat_natCast])⟩
              case measure => simp [intOf]; omega
          · have HN : Hid (R = B (zs s) s.size (k + 1)) := by show R = _; rw [HR.out, B_succ, if_pos hlt, if_neg hc, if_neg ho]
            by_cases g0 : zs s k = 42
            · have g1 : (zs s (k + 1) == 47) = false := beq_eq_false_iff_ne.2 (fun e => hc ⟨g0, e⟩)
              clear hc ho
              go_wp2_with fail
              go_round
              case rel => exact ⟨k + 1, by go_num, by omega, by omega, HN⟩
              case measure => simp [intOf]; omega
            · have g2 : (zs s k == 42) = false := beq_eq_false_iff_ne.2 g0
              by_cases g3 : zs s k = 47
              · have g4 : (zs s (k + 1) == 42) = false := beq_eq_false_iff_ne.2 (fun e => ho ⟨g3, e⟩)
                clear hc ho g0
                go_wp2_with fail
                go_round
                case rel => exact ⟨k + 1, by go_num, by omega, by omega, HN⟩
                case measure => simp [intOf]; omega
              · have g5 : (zs s k == 47) = false := beq_eq_false_iff_ne.2 g3
                clear hc ho g0 g3
                go_wp2_with fail
                go_round
                case rel => exact ⟨k + 1, by go_num, by omega, by omega, HN⟩
                case measure => simp [intOf]; omega
      · have HN : Hid (R = -1) := by show R = _; rw [HR.out, B_succ, if_neg hlt]
        go_wp2_with fail
        go_ret
        exact ⟨ret_int (by rw [HN.out]), rfl⟩
end Go.Proofs.Qxb6606388a.Body
