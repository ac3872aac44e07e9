/-
  THE WALK OF zzb1ModelScan (seat b6602448a).
-/
import Derived.Test.Qxb6602448aStep
namespace Go.Proofs.Qxb6602448a
open Go.ChangeShapes Go.WideShapes Go.ChangeAt Go.RowKit

theorem step_bd (s x : Int) : 0 ≤ Plain.step s x ∧ Plain.step s x ≤ 9 := by
  unfold Plain.step
  repeat' split
  all_goals omega

theorem run_fin {g : Nat → Int} {n : Nat} {s : Int} {k : Nat} {r : Nat} (h : Plain.run g n s k = r) (hd : ¬ k < n ∨ Plain.step s (g k) = 9) : r = if Plain.acc s = true then k + 1 else 0 := by
  rw [← h]
  rcases hd with hd | hd
  · exact Plain.run_end hd
  · exact Plain.run_dead hd

set_option maxHeartbeats 1000000 in
theorem auto_any (b off n c i : Nat) (g : Nat → Int) (w : World) (hn : n ≤ 1048576) (hr : RowAt w b off n g) (hi : i ≤ n) :
    Calls Try.prog 9 #[.slice (some ⟨b, off, none⟩) n c, .int .i64 i] w fun e w' => e = .returned (.int .i64 ((Plain.run g n 0 i : Int) - 1)) ∧ w' = w := by
  have HR := hid hr
  clear hr
  go_enter Try.func9, Try.ntmps9
  go_wp2
  go_loop [5, 6] (fun ts tj => ∃ (s : Int) (k : Nat), 0 ≤ s ∧ s ≤ 8 ∧ i ≤ k ∧ k ≤ n ∧ tj = .int .i64 k ∧ ts = .int .i64 s ∧ Hid (Plain.run g n s k = Plain.run g n 0 i)) (fun _ t => n - (intOf t).toNat)
  case atStart => exact ⟨0, i, by omega, by omega, by omega, hi, rfl, rfl, rfl⟩
  case round =>
    obtain ⟨s, k, hs0, hs8, hk1, hk2, rfl, rfl, HQ⟩ := hrel
    by_cases hlt : k < n
    · have hck := HR.out k hlt
      have hbd := step_bd s (g k)
      go_wp2_with fail
      refine (step_any s (g k) _ hs0 hs8).mono ?_
      rintro e w' ⟨rfl, rfl⟩
      generalize ht : Plain.step s (g k) = t at *
      have HT := hid ht
      clear ht
      cases h9 : (t == 9) with
      | true =>
        have HD := hid (run_fin HQ.out (.inr (HT.out.trans (beq_yes h9))))
        go_wp2_with fail
        refine (acc_any s _ hs0 hs8).mono ?_
        rintro e w2 ⟨rfl, rfl⟩
        cases ha : Plain.acc s with
        | true =>
          go_wp2
          go_ret
          exact ⟨ret_int (by rw [HD.out, if_pos ha]; omega), rfl⟩
        | false =>
          go_wp2
          go_ret
          exact ⟨ret_int (by rw [HD.out, if_neg (by simp [ha])]; rfl), rfl⟩
      | false =>
        have h9' : ¬ t = 9 := beq_no h9
        have ht8 : t ≤ 8 := by omega
        have ht0 : 0 ≤ t := hbd.1
        have HN := hid ((Plain.run_to hlt HT.out h9').symm.trans HQ.out)
        clear hbd h9'
        go_wp2
        go_round
        case rel => exact ⟨t, k + 1, ht0, ht8, by omega, by omega, by go_num, rfl, HN.out⟩
        case measure => simp [intOf]; omega
    · have HD := hid (run_fin HQ.out (.inl hlt))
      go_wp2_with fail
      refine (acc_any s _ hs0 hs8).mono ?_
      rintro e w2 ⟨rfl, rfl⟩
      cases ha : Plain.acc s with
      | true =>
        go_wp2
        go_ret
        exact ⟨ret_int (by rw [HD.out, if_pos ha]; omega), rfl⟩
      | false =>
        go_wp2
        go_ret
        exact ⟨ret_int (by rw [HD.out, if_neg (by simp [ha])]; rfl), rfl⟩

set_option maxHeartbeats 400000 in
theorem auto_out (a : Option Addr) (n c : Nat) (i : Int) (w : World) (hi : (n : Int) ≤ i) :
    Calls Try.prog 9 #[.slice a n c, .int .i64 i] w fun e w' => e = .returned (.int .i64 (-1)) ∧ w' = w := by
  go_enter Try.func9, Try.ntmps9
  go_wp2
  go_loop [5, 6] (fun ts tj => ts = .int .i64 0 ∧ tj = .int .i64 i) (fun _ _ => 0)
  case atStart => exact ⟨rfl, rfl⟩
  case round =>
    obtain ⟨rfl, rfl⟩ := hrel
    go_wp2_with (go_at_call 14; refine (acc_any 0 _ (by omega) (by omega)).mono ?_; rintro e w2 ⟨rfl, rfl⟩; rw [Plain.acc0])
    go_ret
    exact ⟨rfl, rfl⟩
end Go.Proofs.Qxb6602448a
