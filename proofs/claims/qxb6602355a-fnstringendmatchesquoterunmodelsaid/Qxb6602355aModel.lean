/-
  THE WALK OF stringEndModel AT A SINGLE OPENING (seat b6602355a).
-/
import Derived.Test.Qxb6602355aEnd
import Derived.Test.Qxb6602355aParity
namespace Go.Proofs.Qxb6602355a
open Go.ChangeShapes Go.WideShapes Go.ChangeAt Go.RowKit

theorem smodel_single {g : Nat → Int} {n i : Nat} (h : Plain.multi g n i = false) : Plain.smodel g n i = Plain.smod g n (g i) (i + 1) 0 := by
  unfold Plain.smodel; rw [if_neg (by simp [h])]

set_option maxHeartbeats 1000000 in
/-- No triple opening: too few bytes are left. -/
theorem model_short (b off n c i : Nat) (g : Nat → Int) (w : World) (hn : n ≤ 1048576) (hr : RowAt w b off n g) (hi : i < n) (h2 : ¬ i + 2 < n) :
    Calls Try.prog 19 #[.slice (some ⟨b, off, none⟩) n c, .int .i64 i] w fun e w' => e = .returned (.int .i64 (Plain.smodel g n i)) ∧ w' = w := by
  have HS := hid (smodel_single (Plain.multi_false (g := g) (n := n) (i := i) (fun e => h2 e.1)))
  have hci := hr i hi
  have HR := hid hr
  clear hr
  cases hq : (g i == 34) with
  | false =>
    go_enter Try.func19, Try.ntmps19
    go_wp2
    go_loop [10, 11, 12] (fun tb tr tj => ∃ k m : Nat, i + 1 ≤ k ∧ k ≤ n ∧ m ≤ k ∧ tj = .int .i64 k ∧ tb = .int .i64 m ∧ tr = .int .i64 0 ∧ Hid (Plain.smod g n (g i) k m = Plain.smod g n (g i) (i + 1) 0)) (fun _ _ t => n - (intOf t).toNat)
    case atStart => exact ⟨i + 1, 0, by omega, by omega, by omega, by go_num, rfl, rfl, rfl⟩
    case round =>
      obtain ⟨k, m, hk1, hk2, hmk, rfl, rfl, rfl, HQ⟩ := hrel
      by_cases hlt : k < n
      · have hck := HR.out k hlt
        go_wp2
        · have e1 : g k = g i := beq_yes (by assumption)
          have e2 : m % 2 = 0 := mod_yes (by assumption)
          go_ret
          exact ⟨ret_int (by rw [HS.out, ← HQ.out, Plain.smod_hit hlt e1 e2]; rfl), rfl⟩
        · have e1 : g k = g i := beq_yes (by assumption)
          have e2 : m % 2 = 1 := mod_no (by assumption)
          go_round
          case rel => exact ⟨k + 1, 0, by omega, by omega, by omega, by go_num, rfl, rfl, (Plain.smod_odd hlt e1 (by omega)).symm.trans HQ.out⟩
          case measure => simp [intOf]; omega
        · have e1 : ¬ g k = g i := beq_no (by assumption)
          go_round
          case rel => exact ⟨k + 1, 0, by omega, by omega, by omega, by go_num, rfl, rfl, (Plain.smod_go hlt e1 (fun e => beq_no hq e.1)).symm.trans HQ.out⟩
          case measure => simp [intOf]; omega
      · go_wp2
        go_ret
        exact ⟨ret_int (by rw [HS.out, ← HQ.out, Plain.smod_end hlt]), rfl⟩
  | true =>
    go_enter Try.func19, Try.ntmps19
    go_wp2
    go_loop [10, 11, 12] (fun tb tr tj => ∃ k m : Nat, i + 1 ≤ k ∧ k ≤ n ∧ m ≤ k ∧ tj = .int .i64 k ∧ tb = .int .i64 m ∧ tr = .int .i64 0 ∧ Hid (Plain.smod g n (g i) k m = Plain.smod g n (g i) (i + 1) 0)) (fun _ _ t => n - (intOf t).toNat)
    case atStart => exact ⟨i + 1, 0, by omega, by omega, by omega, by go_num, rfl, rfl, rfl⟩
    case round =>
      obtain ⟨k, m, hk1, hk2, hmk, rfl, rfl, rfl, HQ⟩ := hrel
      by_cases hlt : k < n
      · have hck := HR.out k hlt
        go_wp2
        · have e1 : g k = g i := beq_yes (by assumption)
          have e2 : m % 2 = 0 := mod_yes (by assumption)
          go_ret
          exact ⟨ret_int (by rw [HS.out, ← HQ.out, Plain.smod_hit hlt e1 e2]; rfl), rfl⟩
        · have e1 : g k = g i := beq_yes (by assumption)
          have e2 : m % 2 = 1 := mod_no (by assumption)
          go_round
          case rel => exact ⟨k + 1, 0, by omega, by omega, by omega, by go_num, rfl, rfl, (Plain.smod_odd hlt e1 (by omega)).symm.trans HQ.out⟩
          case measure => simp [intOf]; omega
        · have e1 : ¬ g k = g i := beq_no (by assumption)
          have e2 : g k = 92 := beq_yes (by assumption)
          go_round
          case rel => exact ⟨k + 1, m + 1, by omega, by omega, by omega, by go_num, by go_num, rfl, (Plain.smod_back hlt e1 (beq_yes hq) e2).symm.trans HQ.out⟩
          case measure => simp [intOf]; omega
        · have e1 : ¬ g k = g i := beq_no (by assumption)
          have e2 : ¬ g k = 92 := beq_no (by assumption)
          go_round
          case rel => exact ⟨k + 1, 0, by omega, by omega, by omega, by go_num, rfl, rfl, (Plain.smod_go hlt e1 (fun e => e2 e.2)).symm.trans HQ.out⟩
          case measure => simp [intOf]; omega
      · go_wp2
        go_ret
        exact ⟨ret_int (by rw [HS.out, ← HQ.out, Plain.smod_end hlt]), rfl⟩

set_option maxHeartbeats 1000000 in
/-- No triple opening: the second byte is another. -/
theorem model_first (b off n c i : Nat) (g : Nat → Int) (w : World) (hn : n ≤ 1048576) (hr : RowAt w b off n g) (hi : i < n) (h2 : i + 2 < n) (h1 : (g (i + 1) == g i) = false) :
    Calls Try.prog 19 #[.slice (some ⟨b, off, none⟩) n c, .int .i64 i] w fun e w' => e = .returned (.int .i64 (Plain.smodel g n i)) ∧ w' = w := by
  have HS := hid (smodel_single (Plain.multi_false (g := g) (n := n) (i := i) (fun e => beq_no h1 e.2.1)))
  have hc1 := hr (i + 1) (by omega)
  have hci := hr i hi
  have HR := hid hr
  clear hr
  cases hq : (g i == 34) with
  | false =>
    go_enter Try.func19, Try.ntmps19
    go_wp2
    go_loop [10, 11, 12] (fun tb tr tj => ∃ k m : Nat, i + 1 ≤ k ∧ k ≤ n ∧ m ≤ k ∧ tj = .int .i64 k ∧ tb = .int .i64 m ∧ tr = .int .i64 0 ∧ Hid (Plain.smod g n (g i) k m = Plain.smod g n (g i) (i + 1) 0)) (fun _ _ t => n - (intOf t).toNat)
    case atStart => exact ⟨i + 1, 0, by omega, by omega, by omega, by go_num, rfl, rfl, rfl⟩
    case round =>
      obtain ⟨k, m, hk1, hk2, hmk, rfl, rfl, rfl, HQ⟩ := hrel
      by_cases hlt : k < n
      · have hck := HR.out k hlt
        go_wp2
        · have e1 : g k = g i := beq_yes (by assumption)
          have e2 : m % 2 = 0 := mod_yes (by assumption)
          go_ret
          exact ⟨ret_int (by rw [HS.out, ← HQ.out, Plain.smod_hit hlt e1 e2]; rfl), rfl⟩
        · have e1 : g k = g i := beq_yes (by assumption)
          have e2 : m % 2 = 1 := mod_no (by assumption)
          go_round
          case rel => exact ⟨k + 1, 0, by omega, by omega, by omega, by go_num, rfl, rfl, (Plain.smod_odd hlt e1 (by omega)).symm.trans HQ.out⟩
          case measure => simp [intOf]; omega
        · have e1 : ¬ g k = g i := beq_no (by assumption)
          go_round
          case rel => exact ⟨k + 1, 0, by omega, by omega, by omega, by go_num, rfl, rfl, (Plain.smod_go hlt e1 (fun e => beq_no hq e.1)).symm.trans HQ.out⟩
          case measure => simp [intOf]; omega
      · go_wp2
        go_ret
        exact ⟨ret_int (by rw [HS.out, ← HQ.out, Plain.smod_end hlt]), rfl⟩
  | true =>
    go_enter Try.func19, Try.ntmps19
    go_wp2
    go_loop [10, 11, 12] (fun tb tr tj => ∃ k m : Nat, i + 1 ≤ k ∧ k ≤ n ∧ m ≤ k ∧ tj = .int .i64 k ∧ tb = .int .i64 m ∧ tr = .int .i64 0 ∧ Hid (Plain.smod g n (g i) k m = Plain.smod g n (g i) (i + 1) 0)) (fun _ _ t => n - (intOf t).toNat)
    case atStart => exact ⟨i + 1, 0, by omega, by omega, by omega, by go_num, rfl, rfl, rfl⟩
    case round =>
      obtain ⟨k, m, hk1, hk2, hmk, rfl, rfl, rfl, HQ⟩ := hrel
      by_cases hlt : k < n
      · have hck := HR.out k hlt
        go_wp2
        · have e1 : g k = g i := beq_yes (by assumption)
          have e2 : m % 2 = 0 := mod_yes (by assumption)
          go_ret
          exact ⟨ret_int (by rw [HS.out, ← HQ.out, Plain.smod_hit hlt e1 e2]; rfl), rfl⟩
        · have e1 : g k = g i := beq_yes (by assumption)
          have e2 : m % 2 = 1 := mod_no (by assumption)
          go_round
          case rel => exact ⟨k + 1, 0, by omega, by omega, by omega, by go_num, rfl, rfl, (Plain.smod_odd hlt e1 (by omega)).symm.trans HQ.out⟩
          case measure => simp [intOf]; omega
        · have e1 : ¬ g k = g i := beq_no (by assumption)
          have e2 : g k = 92 := beq_yes (by assumption)
          go_round
          case rel => exact ⟨k + 1, m + 1, by omega, by omega, by omega, by go_num, by go_num, rfl, (Plain.smod_back hlt e1 (beq_yes hq) e2).symm.trans HQ.out⟩
          case measure => simp [intOf]; omega
        · have e1 : ¬ g k = g i := beq_no (by assumption)
          have e2 : ¬ g k = 92 := beq_no (by assumption)
          go_round
          case rel => exact ⟨k + 1, 0, by omega, by omega, by omega, by go_num, rfl, rfl, (Plain.smod_go hlt e1 (fun e => e2 e.2)).symm.trans HQ.out⟩
          case measure => simp [intOf]; omega
      · go_wp2
        go_ret
        exact ⟨ret_int (by rw [HS.out, ← HQ.out, Plain.smod_end hlt]), rfl⟩

set_option maxHeartbeats 1000000 in
/-- No triple opening: the third byte is another. -/
theorem model_second (b off n c i : Nat) (g : Nat → Int) (w : World) (hn : n ≤ 1048576) (hr : RowAt w b off n g) (hi : i < n) (h2 : i + 2 < n) (h1 : g (i + 1) = g i) (h3 : (g (i + 2) == g i) = false) :
    Calls Try.prog 19 #[.slice (some ⟨b, off, none⟩) n c, .int .i64 i] w fun e w' => e = .returned (.int .i64 (Plain.smodel g n i)) ∧ w' = w := by
  have HS := hid (smodel_single (Plain.multi_false (g := g) (n := n) (i := i) (fun e => beq_no h3 e.2.2)))
  have hc1 := hr (i + 1) (by omega)
  have hc2 := hr (i + 2) (by omega)
  rw [h1] at hc1
  have hee : (g i == g i) = true := by simp
  clear h1
  have hci := hr i hi
  have HR := hid hr
  clear hr
  cases hq : (g i == 34) with
  | false =>
    go_enter Try.func19, Try.ntmps19
    go_wp2
    go_loop [10, 11, 12] (fun tb tr tj => ∃ k m : Nat, i + 1 ≤ k ∧ k ≤ n ∧ m ≤ k ∧ tj = .int .i64 k ∧ tb = .int .i64 m ∧ tr = .int .i64 0 ∧ Hid (Plain.smod g n (g i) k m = Plain.smod g n (g i) (i + 1) 0)) (fun _ _ t => n - (intOf t).toNat)
    case atStart => exact ⟨i + 1, 0, by omega, by omega, by omega, by go_num, rfl, rfl, rfl⟩
    case round =>
      obtain ⟨k, m, hk1, hk2, hmk, rfl, rfl, rfl, HQ⟩ := hrel
      by_cases hlt : k < n
      · have hck := HR.out k hlt
        go_wp2
        · have e1 : g k = g i := beq_yes (by assumption)
          have e2 : m % 2 = 0 := mod_yes (by assumption)
          go_ret
          exact ⟨ret_int (by rw [HS.out, ← HQ.out, Plain.smod_hit hlt e1 e2]; rfl), rfl⟩
        · have e1 : g k = g i := beq_yes (by assumption)
          have e2 : m % 2 = 1 := mod_no (by assumption)
          go_round
          case rel => exact ⟨k + 1, 0, by omega, by omega, by omega, by go_num, rfl, rfl, (Plain.smod_odd hlt e1 (by omega)).symm.trans HQ.out⟩
          case measure => simp [intOf]; omega
        · have e1 : ¬ g k = g i := beq_no (by assumption)
          go_round
          case rel => exact ⟨k + 1, 0, by omega, by omega, by omega, by go_num, rfl, rfl, (Plain.smod_go hlt e1 (fun e => beq_no hq e.1)).symm.trans HQ.out⟩
          case measure => simp [intOf]; omega
      · go_wp2
        go_ret
        exact ⟨ret_int (by rw [HS.out, ← HQ.out, Plain.smod_end hlt]), rfl⟩
  | true =>
    go_enter Try.func19, Try.ntmps19
    go_wp2
    go_loop [10, 11, 12] (fun tb tr tj => ∃ k m : Nat, i + 1 ≤ k ∧ k ≤ n ∧ m ≤ k ∧ tj = .int .i64 k ∧ tb = .int .i64 m ∧ tr = .int .i64 0 ∧ Hid (Plain.smod g n (g i) k m = Plain.smod g n (g i) (i + 1) 0)) (fun _ _ t => n - (intOf t).toNat)
    case atStart => exact ⟨i + 1, 0, by omega, by omega, by omega, by go_num, rfl, rfl, rfl⟩
    case round =>
      obtain ⟨k, m, hk1, hk2, hmk, rfl, rfl, rfl, HQ⟩ := hrel
      by_cases hlt : k < n
      · have hck := HR.out k hlt
        go_wp2
        · have e1 : g k = g i := beq_yes (by assumption)
          have e2 : m % 2 = 0 := mod_yes (by assumption)
          go_ret
          exact ⟨ret_int (by rw [HS.out, ← HQ.out, Plain.smod_hit hlt e1 e2]; rfl), rfl⟩
        · have e1 : g k = g i := beq_yes (by assumption)
          have e2 : m % 2 = 1 := mod_no (by assumption)
          go_round
          case rel => exact ⟨k + 1, 0, by omega, by omega, by omega, by go_num, rfl, rfl, (Plain.smod_odd hlt e1 (by omega)).symm.trans HQ.out⟩
          case measure => simp [intOf]; omega
        · have e1 : ¬ g k = g i := beq_no (by assumption)
          have e2 : g k = 92 := beq_yes (by assumption)
          go_round
          case rel => exact ⟨k + 1, m + 1, by omega, by omega, by omega, by go_num, by go_num, rfl, (Plain.smod_back hlt e1 (beq_yes hq) e2).symm.trans HQ.out⟩
          case measure => simp [intOf]; omega
        · have e1 : ¬ g k = g i := beq_no (by assumption)
          have e2 : ¬ g k = 92 := beq_no (by assumption)
          go_round
          case rel => exact ⟨k + 1, 0, by omega, by omega, by omega, by go_num, rfl, rfl, (Plain.smod_go hlt e1 (fun e => e2 e.2)).symm.trans HQ.out⟩
          case measure => simp [intOf]; omega
      · go_wp2
        go_ret
        exact ⟨ret_int (by rw [HS.out, ← HQ.out, Plain.smod_end hlt]), rfl⟩

theorem model_single (b off n c i : Nat) (g : Nat → Int) (w : World) (hn : n ≤ 1048576) (hr : RowAt w b off n g) (hi : i < n) (hm : Plain.multi g n i = false) :
    Calls Try.prog 19 #[.slice (some ⟨b, off, none⟩) n c, .int .i64 i] w fun e w' => e = .returned (.int .i64 (Plain.smodel g n i)) ∧ w' = w := by
  have HM := Plain.of_multi_false hm
  by_cases h2 : i + 2 < n
  · cases h1 : (g (i + 1) == g i) with
    | false => exact model_first b off n c i g w hn hr hi h2 h1
    | true =>
      cases h3 : (g (i + 2) == g i) with
      | false => exact model_second b off n c i g w hn hr hi h2 (beq_yes h1) h3
      | true => exact absurd ⟨h2, beq_yes h1, beq_yes h3⟩ HM
  · exact model_short b off n c i g w hn hr hi h2
end Go.Proofs.Qxb6602355a
