import Derived.Test.Qxb6606203aText
import Derived.OpenShut
namespace Go.Proofs.Qxb6606203a.Text
open Go.RowKit

set_option maxHeartbeats 1600000 in
theorem walkPos (a0 : Int) (Z : Nat) (hZ : Z ≤ 4096) (b0 : -9223372036854775808 ≤ a0) (b1 : a0 ≤ 9223372036854775807) (hneg : 0 ≤ a0) (w : World) :
    Calls Try.prog 6 #[.int .i64 a0, .int .i64 (Z : Int)] w fun e w' => e = .returned (.bool true) ∧ Below w.heap.size w w' := by
  have d1 : decide ((Z : Int) < 0) = false := by simp
  have d2 : decide ((4096 : Int) < (Z : Int)) = false := by simp; omega
  have d3 : decide (a0 < 0) = false := by simp; omega
  obtain ⟨i0, hi, hz0, hz1, hz2⟩ := info_parts info5
  have hb1 : i0.bytes * (Z + 21) ≤ 281474976710656 := by rw [hz2]; omega
  have hb2 : Z + 21 ≤ maxLen := by unfold maxLen; omega
  clear hz2
  obtain ⟨M, hMM⟩ : ∃ M : Int, M = a0 := ⟨_, rfl⟩
  have hM0 : 0 ≤ M := by omega
  have hM1 : M ≤ 9999999999999999999 := by omega
  have H19 : Hid (dv M 19 = 0) := dv_19 hM0 (by omega)
  have HM : Hid (M = a0) := hMM
  clear hMM
  go_enter Try.func6, Try.ntmps6
  go_wp2_with fail
  go_loopw [6, 8] (fun m k wr => ∃ (s : Nat) (d : Nat → Int), 1 ≤ s ∧ s ≤ 19 ∧ k = .int .i64 ((s : Int) + 1) ∧ m = .int .u64 (dv M (19 - s)) ∧ Hid (Arr wr w.heap.size d) ∧ Hid (∀ j, s < j → j < 20 → d j = 48 + dv M (19 - j) % 10) ∧ Below w.heap.size w wr ∧ w.heap.size < wr.heap.size) (fun _ k _ => (intOf k).toNat)
  case atStart => exact ⟨19, fun _ => 0, by omega, by omega, rfl, int_eq (by rw [HM.out]; show _ = a0; omega), arr_start w, fun j h1 h2 => by omega, (Below.refl _ _).alloc (Nat.le_refl _) _, by simp⟩
  case round =>
    obtain ⟨s, d, hs1, hs2, rfl, rfl, HA, HD, hbel, hsz⟩ := hrel
    have hcell := HA.out.1 s (by omega)
    have hfrz := HA.out.2 s (by omega)
    have hv0 := dv_nonneg hM0 (19 - s)
    have hv1 := dv_le hM0 (19 - s)
    have HN : Hid (dv M (20 - s) = dv M (19 - s) / 10) := by rw [show 20 - s = (19 - s) + 1 by omega]; rfl
    obtain ⟨v, hvv⟩ : ∃ v, v = dv M (19 - s) := ⟨_, rfl⟩
    rw [← hvv] at hv0 hv1 HN
    rw [← hvv]
    have HV : Hid (v = dv M (19 - s)) := hvv
    clear hvv
    by_cases hlast : v < 10
    · -- the last digit
      have hq : (v / 10 == 0) = true := beq_iff_eq.2 (by omega)
      have HEND : Hid (dv M (20 - s) = 0) := by rw [HN.out]; show v / 10 = 0; omega
      have HA2 := arr_set HA.out (show s < 20 by omega) (48 + v % 10)
      have HE2 := digs_set (show s < 20 by omega) HV.out HD.out
      obtain ⟨e, hee⟩ : ∃ e : Nat → Int, e = fun j => if j = s then 48 + v % 10 else d j := ⟨_, rfl⟩
      rw [← hee] at HA2 HE2
      have HE : Hid (∀ j, s ≤ j → j < 20 → e j = 48 + dv M (19 - j) % 10) := HE2
      have HA3 : Hid (Arr (wr.setCell ⟨w.heap.size, s, none⟩ (.int .u8 (48 + v % 10))) w.heap.size e) := HA2
      have hbel2 : Below w.heap.size w (wr.setCell ⟨w.heap.size, s, none⟩ (.int .u8 (48 + v % 10))) := hbel.setCell (Nat.le_refl _) _
      clear hee HA2 HE2 HA HD HN H19 hbel
      obtain ⟨z, hzz⟩ : ∃ z : Nat → Int, z = zf 0 Z s e := ⟨_, rfl⟩
      have HZZ : Hid (z = zf 0 Z s e) := hzz
      clear hzz
      go_wp2_with (at_make; refine wpList_make_own _ rfl _ _ 26 rfl (w.heap.size + 1) 5 i0 (.int .u8 0) 1 Try.underlying26 hi hz0 hz1 _ _ _ (Z + 21) rfl rfl (by omega) hb1 hb2 (by simp; omega) ?_; intro w2 hown hgrow; simp only [World.size_setCell] at hown)
      obtain ⟨hc2, hb3, hsz2⟩ := made_rest (by simp; omega) HA3.out.1 hbel2 hgrow
      have HC : Hid (∀ j, j < 20 → w2.cell? ⟨w.heap.size, j, none⟩ = some (.int .u8 (e j))) := hc2
      obtain ⟨G, hG⟩ : ∃ G, G = wr.heap.size := ⟨_, rfl⟩
      rw [← hG] at hown hsz
      rw [← hG]
      have hown2 : w2.ownsRow (w.heap.size + 1) 5 1 (.slice (some ⟨G, 0, none⟩) 0 (Z + 21)) 0 (rowOf z 0) := hown
      clear hG hc2 hgrow hbel2 HA3 hown hq hlast hcell hfrz
      go_loopw [9, 10] (fun x i w4 => ∃ q : Nat, q ≤ Z ∧ i = .int .i64 q ∧ x = .slice (some ⟨G, 0, none⟩) (q + 0) (Z + 21) ∧ w4.ownsRow (w.heap.size + 1) 5 1 (.slice (some ⟨G, 0, none⟩) (q + 0) (Z + 21)) (q + 0) (rowOf z (q + 0)) ∧ Hid (∀ j, j < 20 → w4.cell? ⟨w.heap.size, j, none⟩ = some (.int .u8 (e j))) ∧ Below w.heap.size w w4 ∧ w.heap.size < w4.heap.size) (fun _ i _ => Z - (intOf i).toNat)
      case atStart => exact ⟨0, by omega, rfl, rfl, hown2, HC, hb3, hsz2⟩
      case round =>
        clear hown2 HC hb3 hsz2
        obtain ⟨q, hq, rfl, rfl, hown, HC, hb3, hsz3⟩ := hrel
        by_cases hqz : q < Z
        · have HZ0 : Hid (z (q + 0) = 48) := by rw [HZZ.out]; exact zf_zero hqz
          go_wp2_with (at_builtin; refine wpList_append_fits _ rfl _ _ 26 rfl (w.heap.size + 1) 5 i0 1 Try.underlying26 hi hz1 G (q + 0) (Z + 21) (rowOf z (q + 0)) rfl (hown.alloc _) ⟨wr.heap.size, 0, none⟩ 1 1 [.int .u8 48] rfl rfl (one_new _ _ _) (one_one _ _) (by omega) ?_; intro w5 hown5 hgrow5; have HO : Hid (w5.ownsRow (w.heap.size + 1) 5 1 (.slice (some ⟨G, 0, none⟩) (q + 0 + 1) (Z + 21)) (q + 0 + 1) (rowOf z (q + 0) ++ [.int .u8 48])) := hown5; clear hown5 hown)
          obtain ⟨hc6, hb6, hsz6⟩ := push_rest hsz hsz3 HC.out hb3 hgrow5
          go_roundw
          case rel => exact ⟨q + 1, by omega, by go_num, rfl, by have := HO.out; rw [row_step HZ0.out] at this; exact this, hc6, hb6, hsz6⟩
          case measure => simp [intOf]; omega
        · obtain rfl : q = Z := by omega
          clear hqz hq
          have HO : Hid (wr.ownsRow (w.heap.size + 1) 5 1 (.slice (some ⟨G, 0, none⟩) (q + 0) (q + 21)) (q + 0) (rowOf z (q + 0))) := hown
          clear hown
          go_wp2_with fail
          go_loopw [9, 11] (fun x i w4 => ∃ p : Nat, s + p ≤ 20 ∧ i = .int .i64 ((s + p : Nat) : Int) ∧ x = .slice (some ⟨G, 0, none⟩) (q + 0 + p) (q + 21) ∧ w4.ownsRow (w.heap.size + 1) 5 1 (.slice (some ⟨G, 0, none⟩) (q + 0 + p) (q + 21)) (q + 0 + p) (rowOf z (q + 0 + p)) ∧ Hid (∀ j, j < 20 → w4.cell? ⟨w.heap.size, j, none⟩ = some (.int .u8 (e j))) ∧ Below w.heap.size w w4 ∧ w.heap.size < w4.heap.size) (fun _ i _ => 20 - (intOf i).toNat)
          case atStart => exact ⟨0, by omega, rfl, rfl, HO.out, HC, hb3, hsz3⟩
          case round =>
            clear HO HC hb3 hsz3
            obtain ⟨p, hp, rfl, rfl, hown, HC, hb3, hsz3⟩ := hrel
            by_cases hps : s + p < 20
            · have hcell := HC.out (s + p) hps
              have HZ0 : Hid (z (q + 0 + p) = e (s + p)) := by rw [HZZ.out]; exact zf_dig e p
              obtain ⟨c, hcc⟩ : ∃ c, c = e (s + p) := ⟨_, rfl⟩
              rw [← hcc] at hcell HZ0
              clear hcc
              go_wp2_with (at_builtin; refine wpList_append_fits _ rfl _ _ 26 rfl (w.heap.size + 1) 5 i0 1 Try.underlying26 hi hz1 G (q + 0 + p) (q + 21) (rowOf z (q + 0 + p)) rfl (hown.alloc _) ⟨wr.heap.size, 0, none⟩ 1 1 [.int .u8 c] rfl rfl (one_new _ _ _) (one_one _ _) (by omega) ?_; intro w5 hown5 hgrow5; have HO : Hid (w5.ownsRow (w.heap.size + 1) 5 1 (.slice (some ⟨G, 0, none⟩) (q + 0 + p + 1) (q + 21)) (q + 0 + p + 1) (rowOf z (q + 0 + p) ++ [.int .u8 c])) := hown5; clear hown5 hown)
              obtain ⟨hc6, hb6, hsz6⟩ := push_rest hsz hsz3 HC.out hb3 hgrow5
              go_roundw
              case rel => exact ⟨p + 1, by omega, by go_num, rfl, by have := HO.out; rw [row_step HZ0.out] at this; exact this, hc6, hb6, hsz6⟩
              case measure => simp [intOf]; omega
            · have hp20 : s + p = 20 := by omega
              have HP : Hid (s + p = 20) := hp20
              have hcells : Hid (∀ t, t < q + 0 + p → wr.cell? ⟨G, 0 + t, none⟩ = some (.int .u8 (z t))) := fun t ht => by rw [Nat.zero_add, hown.cellAt t (by omega), row_at z ht]
              have hge : ¬ ((s + p : Nat) : Int) < 20 := by omega
              have hp1 : 1 ≤ p := by omega
              clear hp20 hps hown
              by_cases h18 : 18 < q + p
              · have hd : decide ((18 : Int) < ((q + p : Nat) : Int)) = true := by simp; omega
                go_wp2_with (go_at_call 9; refine (Parse.zz_len _ _ _ _ (by omega) (.inr h18)).mono ?_; rintro e' w' ⟨rfl, hw'⟩; subst w')
                go_ret
                exact ⟨rfl, hb3⟩
              · have hval : Hid (Parse.val z (q + p) = a0) := by rw [HZZ.out]; exact (text_val hM0 HP.out HEND.out HE.out).trans HM.out
                have hdig : Hid (∀ t, t < q + p → Parse.Dig (z t)) := by rw [HZZ.out]; exact text_dig HP.out HE.out
                go_wp2_with (go_at_call 9; refine (Parse.zz_yes G 0 (q + p) (q + 21) z _ (by omega) (by omega) (by exact hcells.out) hdig.out).mono ?_; rintro e' w' ⟨rfl, hw'⟩; subst w'; rw [hval.out])
                go_ret
                exact ⟨by simp, hb3⟩
    · -- one digit more
      have hq : (v / 10 == 0) = false := beq_eq_false_iff_ne.2 (by omega)
      have hs3 : s ≠ 1 := by
        intro h1
        have h20 := HN.out
        rw [h1] at h20
        have h19 := H19.out
        have e19 : dv M (20 - 1) = dv M 19 := rfl
        omega
      have HA2 := arr_set HA.out (show s < 20 by omega) (48 + v % 10)
      have HE2 := digs_set (show s < 20 by omega) HV.out HD.out
      have HA3 : Hid (Arr (wr.setCell ⟨w.heap.size, s, none⟩ (.int .u8 (48 + v % 10))) w.heap.size fun j => if j = s then 48 + v % 10 else d j) := HA2
      have HE : Hid (∀ j, s ≤ j → j < 20 → (fun j => if j = s then 48 + v % 10 else d j) j = 48 + dv M (19 - j) % 10) := HE2
      have hbel2 : Below w.heap.size w (wr.setCell ⟨w.heap.size, s, none⟩ (.int .u8 (48 + v % 10))) := hbel.setCell (Nat.le_refl _) _
      clear HA2 HE2 hbel
      go_wp2_with fail
      go_roundw
      case rel =>
        refine ⟨s - 1, _, by omega, by omega, int_eq (by omega), int_eq ?_, HA3, fun j h1 h2 => HE.out j (by omega) h2, hbel2, by simpa using hsz⟩
        rw [show 19 - (s - 1) = 20 - s by omega, HN.out]
      case measure => simp [intOf]
end Go.Proofs.Qxb6606203a.Text
