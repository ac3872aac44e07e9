/-
  THE WALKS OF isDigit AND skipDigits (seat b6602448a).
-/
import Derived.Test.Qxb6602448aClone
import Derived.Test.Qxb6602448aPlain
namespace Go.Proofs.Qxb6602448a
open Go.ChangeShapes Go.WideShapes Go.ChangeAt Go.RowKit

theorem isDigit_yes (x : Int) (w : World) (h : Plain.dig x = true) : Calls Try.prog 15 #[.int .u8 x] w fun e w' => e = .returned (.bool true) ∧ w' = w := by
  have hb := Plain.of_dig h
  obtain ⟨h1, h2⟩ := hb
  clear h
  go_enter Try.func15, Try.ntmps15
  go_wp2
  go_ret
  exact ⟨ret_bool (by first | rfl | (simp; done) | (simp; omega)), rfl⟩
theorem isDigit_no (x : Int) (w : World) (h : Plain.dig x = false) : Calls Try.prog 15 #[.int .u8 x] w fun e w' => e = .returned (.bool false) ∧ w' = w := by
  have hb := Plain.of_not_dig h
  clear h
  go_enter Try.func15, Try.ntmps15
  go_wp2
  all_goals (go_ret; exact ⟨ret_bool (by first | (simp; done) | (simp; omega)), rfl⟩)

set_option maxHeartbeats 400000 in
theorem skip_any (b off n c i : Nat) (g : Nat → Int) (w : World) (hn : n ≤ 1048576) (hr : RowAt w b off n g) (hi : i ≤ n) :
    Calls Try.prog 16 #[.slice (some ⟨b, off, none⟩) n c, .int .i64 i] w fun e w' => e = .returned (.int .i64 (Plain.skip g n i)) ∧ w' = w := by
  have HR := hid hr
  clear hr
  go_enter Try.func16, Try.ntmps16
  go_wp2
  go_loop [1] (fun t => ∃ k : Nat, i ≤ k ∧ k ≤ n ∧ t = .int .i64 k ∧ Hid (Plain.skip g n k = Plain.skip g n i)) (fun t => n - (intOf t).toNat)
  case atStart => exact ⟨i, by omega, hi, rfl, rfl⟩
  case round =>
    obtain ⟨k, hk1, hk2, rfl, HQ⟩ := hrel
    by_cases hlt : k < n
    · have hck := HR.out k hlt
      cases hd : Plain.dig (g k) with
      | true =>
        have HD := hid hd
        clear hd
        go_wp2_with (go_at_call 15; refine (isDigit_yes _ _ HD.out).mono ?_; rintro e w' ⟨rfl, rfl⟩)
        go_round
        case rel => exact ⟨k + 1, by omega, by omega, by go_num, (Plain.skip_go hlt HD.out).symm.trans HQ.out⟩
        case measure => simp [intOf]; omega
      | false =>
        have HD := hid hd
        clear hd
        go_wp2_with (go_at_call 15; refine (isDigit_no _ _ HD.out).mono ?_; rintro e w' ⟨rfl, rfl⟩)
        go_ret
        exact ⟨ret_int (by rw [← HQ.out, Plain.skip_stop HD.out]), rfl⟩
    · go_wp2
      go_ret
      exact ⟨ret_int (by rw [← HQ.out, Plain.skip_end hlt]), rfl⟩
end Go.Proofs.Qxb6602448a
