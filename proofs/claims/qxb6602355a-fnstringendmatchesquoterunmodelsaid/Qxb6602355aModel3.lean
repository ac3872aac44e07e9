/-
  THE WALK OF stringEndModel AT A TRIPLE OPENING; stringEndModel WHOLE (seat b6602355a).
-/
import Derived.Test.Qxb6602355aModel
namespace Go.Proofs.Qxb6602355a
open Go.ChangeShapes Go.WideShapes Go.ChangeAt Go.RowKit

theorem smodel_multi {g : Nat → Int} {n i : Nat} (h : Plain.multi g n i = true) : Plain.smodel g n i = Plain.mmod g n (g i) (i + 3) 0 0 := by
  unfold Plain.smodel; rw [if_pos h]
theorem run_next {g : Nat → Int} {n : Nat} {q : Int} {p t : Nat} (h : p + Plain.cnt g n q p = t) (hlt : p < n) (hq : g p = q) : p + 1 + Plain.cnt g n q (p + 1) = t := by
  have := Plain.cnt_hit hlt hq
  omega

set_option maxHeartbeats 1000000 in
theorem model_basic (b off n c i : Nat) (g : Nat → Int) (w : World) (hn : n ≤ 1048576) (hr : RowAt w b off n g) (hi : i < n) (hm : Plain.multi g n i = true) (hq : (g i == 34) = true) :
    Calls Try.prog 19 #[.slice (some ⟨b, off, none⟩) n c, .int .i64 i] w fun e w' => e = .returned (.int .i64 (Plain.smodel g n i)) ∧ w' = w := by
  have HS := hid (smodel_multi hm)
  have hmt := Plain.of_multi_true hm
  have hci := hr i hi
  have h2 : i + 2 < n := hmt.1
  have hc1 := hr (i + 1) (by omega)
  have hc2 := hr (i + 2) (by omega)
  rw [hmt.2.1] at hc1
  rw [hmt.2.2] at hc2
  have hee : (g i == g i) = true := by simp
  have HR := hid hr
  clear hr hm hmt
  go_enter Try.func19, Try.ntmps19
  go_wp2
  go_loop [10, 11, 12] (fun tb tr tj => ∃ k m r : Nat, i + 3 ≤ k ∧ k ≤ n ∧ m ≤ k ∧ r ≤ 2 ∧ tj = .int .i64 k ∧ tb = .int .i64 m ∧ tr = .int .i64 r ∧ Hid (Plain.mmod g n (g i) k m r = Plain.mmod g n (g i) (i + 3) 0 0)) (fun _ _ t => n - (intOf t).toNat)
  case atStart => exact ⟨i + 3, 0, 0, by omega, by omega, by omega, by omega, by go_num, rfl, rfl, rfl⟩
  case round =>
    obtain ⟨k, m, r, hk1, hk2, hmk, hr2, rfl, rfl, rfl, HQ⟩ := hrel
    by_cases hlt : k < n
    · have hck := HR.out k hlt
      go_wp2
      · have e1 : Hid (g k = g i) := beq_yes (by assumption)
        have e2 : (3 : Int) ≤ (r : Int) + 1 := by assumption
        go_loop [14] (fun t => ∃ p : Nat, k + 1 ≤ p ∧ p ≤ n ∧ t = .int .i64 p ∧ Hid (p + Plain.cnt g n (g i) p = k + 1 + Plain.cnt g n (g i) (k + 1))) (fun t => n - (intOf t).toNat)
        case atStart => exact ⟨k + 1, by omega, by omega, by go_num, rfl⟩
        case round =>
          obtain ⟨p, hp1, hp2, rfl, HP⟩ := hrel
          by_cases hlp : p < n
          · have hcp := HR.out p hlp
            go_wp2
            · have e3 : g p = g i := beq_yes (by assumption)
              go_round
              case rel => exact ⟨p + 1, by omega, by omega, by go_num, run_next HP.out hlp e3⟩
              case measure => simp [intOf]; omega
            · have e3 : ¬ g p = g i := beq_no (by assumption)
              go_ret
              exact ⟨ret_int (by rw [HS.out, ← HQ.out, Plain.mmod_hit hlt e1.out (by omega), ← HP.out, cnt_zero (fun e => e3 e.2)]; rfl), rfl⟩
          · go_wp2
            go_ret
            exact ⟨ret_int (by rw [HS.out, ← HQ.out, Plain.mmod_hit hlt e1.out (by omega), ← HP.out, cnt_zero (fun e => hlp e.1)]; rfl), rfl⟩
      · have e1 : g k = g i := beq_yes (by assumption)
        have e2 : 0 < r := by assumption
        have e3 : (r : Int) + 1 < 3 := by assumption
        go_round
        case rel => exact ⟨k + 1, 0, r + 1, by omega, by omega, by omega, by omega, by go_num, rfl, by go_num, (Plain.mmod_more hlt e1 (by omega) (by omega)).symm.trans HQ.out⟩
        case measure => simp [intOf]; omega
      · have e1 : g k = g i := beq_yes (by assumption)
        have e2 : ¬ 0 < r := by assumption
        have e3 : m % 2 = 0 := mod_yes (by assumption)
        go_round
        case rel => exact ⟨k + 1, 0, 1, by omega, by omega, by omega, by omega, by go_num, rfl, rfl, (Plain.mmod_first hlt e1 (by omega) e3).symm.trans HQ.out⟩
        case measure => simp [intOf]; omega
      · have e1 : g k = g i := beq_yes (by assumption)
        have e2 : ¬ 0 < r := by assumption
        have e3 : m % 2 = 1 := mod_no (by assumption)
        have e4 : r = 0 := by omega
        go_round
        case rel => exact ⟨k + 1, 0, 0, by omega, by omega, by omega, by omega, by go_num, rfl, by rw [e4], (Plain.mmod_odd hlt e1 e4 (by omega)).symm.trans HQ.out⟩
        case measure => simp [intOf]; omega
      · have e1 : ¬ g k = g i := beq_no (by assumption)
        have e2 : g k = 92 := beq_yes (by assumption)
        go_round
        case rel => exact ⟨k + 1, m + 1, 0, by omega, by omega, by omega, by omega, by go_num, by go_num, rfl, (Plain.mmod_back hlt e1 (beq_yes hq) e2).symm.trans HQ.out⟩
        case measure => simp [intOf]; omega
      · have e1 : ¬ g k = g i := beq_no (by assumption)
        have e2 : ¬ g k = 92 := beq_no (by assumption)
        go_round
        case rel => exact ⟨k + 1, 0, 0, by omega, by omega, by omega, by omega, by go_num, rfl, rfl, (Plain.mmod_go hlt e1 (fun e => e2 e.2)).symm.trans HQ.out⟩
        case measure => simp [intOf]; omega
    · go_wp2
      go_ret
      exact ⟨ret_int (by rw [HS.out, ← HQ.out, Plain.mmod_end hlt]), rfl⟩

set_option maxHeartbeats 1000000 in
theorem model_literal (b off n c i : Nat) (g : Nat → Int) (w : World) (hn : n ≤ 1048576) (hr : RowAt w b off n g) (hi : i < n) (hm : Plain.multi g n i = true) (hq : (g i == 34) = false) :
    Calls Try.prog 19 #[.slice (some ⟨b, off, none⟩) n c, .int .i64 i] w fun e w' => e = .returned (.int .i64 (Plain.smodel g n i)) ∧ w' = w := by
  have HS := hid (smodel_multi hm)
  have hmt := Plain.of_multi_true hm
  have hci := hr i hi
  have h2 : i + 2 < n := hmt.1
  have hc1 := hr (i + 1) (by omega)
  have hc2 := hr (i + 2) (by omega)
  rw [hmt.2.1] at hc1
  rw [hmt.2.2] at hc2
  have hee : (g i == g i) = true := by simp
  have HR := hid hr
  clear hr hm hmt
  go_enter Try.func19, Try.ntmps19
  go_wp2
  go_loop [10, 11, 12] (fun tb tr tj => ∃ k m r : Nat, i + 3 ≤ k ∧ k ≤ n ∧ m ≤ k ∧ r ≤ 2 ∧ tj = .int .i64 k ∧ tb = .int .i64 m ∧ tr = .int .i64 r ∧ Hid (Plain.mmod g n (g i) k m r = Plain.mmod g n (g i) (i + 3) 0 0)) (fun _ _ t => n - (intOf t).toNat)
  case atStart => exact ⟨i + 3, 0, 0, by omega, by omega, by omega, by omega, by go_num, rfl, rfl, rfl⟩
  case round =>
    obtain ⟨k, m, r, hk1, hk2, hmk, hr2, rfl, rfl, rfl, HQ⟩ := hrel
    by_cases hlt : k < n
    · have hck := HR.out k hlt
      go_wp2
      · have e1 : Hid (g k = g i) := beq_yes (by assumption)
        have e2 : (3 : Int) ≤ (r : Int) + 1 := by assumption
        go_loop [14] (fun t => ∃ p : Nat, k + 1 ≤ p ∧ p ≤ n ∧ t = .int .i64 p ∧ Hid (p + Plain.cnt g n (g i) p = k + 1 + Plain.cnt g n (g i) (k + 1))) (fun t => n - (intOf t).toNat)
        case atStart => exact ⟨k + 1, by omega, by omega, by go_num, rfl⟩
        case round =>
          obtain ⟨p, hp1, hp2, rfl, HP⟩ := hrel
          by_cases hlp : p < n
          · have hcp := HR.out p hlp
            go_wp2
            · have e3 : g p = g i := beq_yes (by assumption)
              go_round
              case rel => exact ⟨p + 1, by omega, by omega, by go_num, run_next HP.out hlp e3⟩
              case measure => simp [intOf]; omega
            · have e3 : ¬ g p = g i := beq_no (by assumption)
              go_ret
              exact ⟨ret_int (by rw [HS.out, ← HQ.out, Plain.mmod_hit hlt e1.out (by omega), ← HP.out, cnt_zero (fun e => e3 e.2)]; rfl), rfl⟩
          · go_wp2
            go_ret
            exact ⟨ret_int (by rw [HS.out, ← HQ.out, Plain.mmod_hit hlt e1.out (by omega), ← HP.out, cnt_zero (fun e => hlp e.1)]; rfl), rfl⟩
      · have e1 : g k = g i := beq_yes (by assumption)
        have e2 : 0 < r := by assumption
        have e3 : (r : Int) + 1 < 3 := by assumption
        go_round
        case rel => exact ⟨k + 1, 0, r + 1, by omega, by omega, by omega, by omega, by go_num, rfl, by go_num, (Plain.mmod_more hlt e1 (by omega) (by omega)).symm.trans HQ.out⟩
        case measure => simp [intOf]; omega
      · have e1 : g k = g i := beq_yes (by assumption)
        have e2 : ¬ 0 < r := by assumption
        have e3 : m % 2 = 0 := mod_yes (by assumption)
        go_round
        case rel => exact ⟨k + 1, 0, 1, by omega, by omega, by omega, by omega, by go_num, rfl, rfl, (Plain.mmod_first hlt e1 (by omega) e3).symm.trans HQ.out⟩
        case measure => simp [intOf]; omega
      · have e1 : g k = g i := beq_yes (by assumption)
        have e2 : ¬ 0 < r := by assumption
        have e3 : m % 2 = 1 := mod_no (by assumption)
        have e4 : r = 0 := by omega
        go_round
        case rel => exact ⟨k + 1, 0, 0, by omega, by omega, by omega, by omega, by go_num, rfl, by rw [e4], (Plain.mmod_odd hlt e1 e4 (by omega)).symm.trans HQ.out⟩
        case measure => simp [intOf]; omega
      · have e1 : ¬ g k = g i := beq_no (by assumption)
        go_round
        case rel => exact ⟨k + 1, 0, 0, by omega, by omega, by omega, by omega, by go_num, rfl, rfl, (Plain.mmod_go hlt e1 (fun e => beq_no hq e.1)).symm.trans HQ.out⟩
        case measure => simp [intOf]; omega
    · go_wp2
      go_ret
      exact ⟨ret_int (by rw [HS.out, ← HQ.out, Plain.mmod_end hlt]), rfl⟩

theorem model_any (b off n c i : Nat) (g : Nat → Int) (w : World) (hn : n ≤ 1048576) (hr : RowAt w b off n g) (hi : i < n) :
    Calls Try.prog 19 #[.slice (some ⟨b, off, none⟩) n c, .int .i64 i] w fun e w' => e = .returned (.int .i64 (Plain.smodel g n i)) ∧ w' = w := by
  cases hm : Plain.multi g n i with
  | false => exact model_single b off n c i g w hn hr hi hm
  | true =>
    cases hq : (g i == 34) with
    | true => exact model_basic b off n c i g w hn hr hi hm hq
    | false => exact model_literal b off n c i g w hn hr hi hm hq
end Go.Proofs.Qxb6602355a
