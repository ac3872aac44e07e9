/-
  THE WALK OF scanNumber (seat b6602448a).
-/
import Derived.Test.Qxb6602448aSkip
import Derived.Deep.DeepCutAuto
import Derived.Deep.CutBlock
namespace Go.Proofs.Qxb6602448a
open Go.ChangeShapes Go.WideShapes Go.ChangeAt Go.RowKit

theorem scan_minus {g : Nat → Int} {n i : Nat} (hi : i < n) (h : g i = 45) : Plain.scan g n i = Plain.whole g n (i + 1) := by
  unfold Plain.scan; rw [if_pos ⟨hi, h⟩]
theorem scan_plain {g : Nat → Int} {n i : Nat} (h : ¬ g i = 45) : Plain.scan g n i = Plain.whole g n i := by
  unfold Plain.scan; rw [if_neg (fun e => h e.2)]
theorem whole_zero {g : Nat → Int} {n k : Nat} (hi : k < n) (h : g k = 48) : Plain.whole g n k = Plain.frac g n (k + 1) := by
  unfold Plain.whole; rw [if_pos ⟨hi, h⟩]
theorem whole_dig {g : Nat → Int} {n k : Nat} (hi : k < n) (h : ¬ g k = 48) (hd : Plain.dig (g k) = true) : Plain.whole g n k = Plain.frac g n (Plain.skip g n k) := by
  unfold Plain.whole; rw [if_neg (fun e => h e.2), if_pos ⟨hi, hd⟩]
theorem whole_no {g : Nat → Int} {n k : Nat} (hd : ¬ (k < n ∧ Plain.dig (g k) = true)) : Plain.whole g n k = 0 := by
  unfold Plain.whole; rw [if_neg (fun e => hd ⟨e.1, Plain.dig48 e.2⟩), if_neg hd]
/-- skipDigits, its argument spelt as it comes. -/
theorem skip_at (b off n c i : Nat) (t : Int) (g : Nat → Int) (w : World) (hn : n ≤ 1048576) (hr : RowAt w b off n g) (hi : i ≤ n) (ht : t = (i : Int)) :
    Calls Try.prog 16 #[.slice (some ⟨b, off, none⟩) n c, .int .i64 t] w fun e w' => e = .returned (.int .i64 (Plain.skip g n i)) ∧ w' = w := by
  rw [ht]; exact skip_any b off n c i g w hn hr hi
theorem frac_dot {g : Nat → Int} {n j : Nat} (h : j < n) (hd : g j = 46) : Plain.frac g n j = if Plain.skip g n (j + 1) = j + 1 then 0 else Plain.expo g n (Plain.skip g n (j + 1)) := by
  unfold Plain.frac; rw [if_pos ⟨h, hd⟩]
theorem frac_no {g : Nat → Int} {n j : Nat} (h : ¬ (j < n ∧ g j = 46)) : Plain.frac g n j = Plain.expo g n j := by
  unfold Plain.frac; rw [if_neg h]
theorem expo_no {g : Nat → Int} {n j : Nat} (h : ¬ (j < n ∧ (g j = 101 ∨ g j = 69))) : Plain.expo g n j = j + 1 := by
  unfold Plain.expo; rw [if_neg h]
theorem expo_sign {g : Nat → Int} {n j : Nat} (h : j < n) (he : g j = 101 ∨ g j = 69) (h1 : j + 1 < n) (hs : g (j + 1) = 43 ∨ g (j + 1) = 45) : Plain.expo g n j = if Plain.skip g n (j + 2) = j + 2 then 0 else Plain.skip g n (j + 2) + 1 := by
  unfold Plain.expo; rw [if_pos ⟨h, he⟩, if_pos ⟨h1, hs⟩]
theorem expo_bare {g : Nat → Int} {n j : Nat} (h : j < n) (he : g j = 101 ∨ g j = 69) (hs : ¬ (j + 1 < n ∧ (g (j + 1) = 43 ∨ g (j + 1) = 45))) : Plain.expo g n j = if Plain.skip g n (j + 1) = j + 1 then 0 else Plain.skip g n (j + 1) + 1 := by
  unfold Plain.expo; rw [if_pos ⟨h, he⟩, if_neg hs]

set_option maxRecDepth 100000 in
set_option maxHeartbeats 1000000 in
theorem scan_any (b off n c i : Nat) (g : Nat → Int) (w : World) (hn : n ≤ 1048576) (hr : RowAt w b off n g) (hi : i < n) :
    Calls Try.prog 12 #[.slice (some ⟨b, off, none⟩) n c, .int .i64 i] w fun e w' => e = .returned (.int .i64 ((Plain.scan g n i : Int) - 1)) ∧ w' = w := by
  have HR := hid hr
  have hci := hr i hi
  clear hr
  go_enter Try.func12, Try.ntmps12
  go_upto_if 17 with fail
  go_cut [1] (fun s1 wx => ∃ k : Nat, k ≤ n ∧ s1 = .int .i64 k ∧ wx = w ∧ Hid (Plain.scan g n i = Plain.whole g n k))
  case first =>
    go_wp2
    · have e1 : g i = 45 := beq_yes (by assumption)
      go_meet
      case rel => exact ⟨i + 1, by omega, by go_num, rfl, scan_minus hi e1⟩
    · have e1 : ¬ g i = 45 := beq_no (by assumption)
      go_meet
      case rel => exact ⟨i, by omega, rfl, rfl, scan_plain e1⟩
  case rest =>
    clear hci
    obtain ⟨k, hk, rfl, rfl, HQ⟩ := hcut
    go_upto_block 0 with fail
    go_cut [1] (fun s1 wx => ∃ j : Nat, j ≤ n ∧ s1 = .int .i64 j ∧ wx = wc ∧ Hid (Plain.scan g n i = Plain.frac g n j))
    case first =>
      by_cases hlt : k < n
      · have hck := HR.out k hlt
        cases h48 : (g k == 48) with
        | true =>
          go_wp2
          go_meet
          case rel => exact ⟨k + 1, by omega, by go_num, rfl, HQ.out.trans (whole_zero hlt (beq_yes h48))⟩
        | false =>
          cases hd : Plain.dig (g k) with
          | true =>
            have HD := hid hd
            clear hd
            go_wp2_with (first | (go_at_call 15; refine (isDigit_yes _ _ HD.out).mono ?_; rintro e w' ⟨rfl, rfl⟩) | (go_at_call 16; refine (skip_any _ _ _ _ _ g _ hn HR.out (by omega)).mono ?_; rintro e w' ⟨rfl, rfl⟩))
            go_meet
            case rel => exact ⟨_, Plain.skip_hi g n k hk, rfl, rfl, HQ.out.trans (whole_dig hlt (beq_no h48) HD.out)⟩
          | false =>
            have HD := hid hd
            clear hd
            go_wp2_with (go_at_call 15; refine (isDigit_no _ _ HD.out).mono ?_; rintro e w' ⟨rfl, rfl⟩)
            go_ret
            exact ⟨ret_int (by rw [HQ.out, whole_no (fun e => by rw [HD.out] at e; exact Bool.noConfusion e.2)]; rfl), rfl⟩
      · go_wp2
        go_ret
        exact ⟨ret_int (by rw [HQ.out, whole_no (fun e => hlt e.1)]; rfl), rfl⟩
    case rest =>
      obtain ⟨j, hj, rfl, rfl, HQ2⟩ := hcut
      clear HQ
      by_cases hjn : j < n
      · have hcj := HR.out j hjn
        go_upto_if 59 with fail
        go_cut [1] (fun s1 wx => ∃ m : Nat, m ≤ n ∧ s1 = .int .i64 m ∧ wx = wc ∧ Hid (Plain.scan g n i = Plain.expo g n m))
        case first =>
          cases h46 : (g j == 46) with
          | true =>
            go_wp2_with fail
            refine (skip_at b off n c (j + 1) _ g _ hn HR.out (by omega) (by omega)).mono ?_
            rintro e w' ⟨rfl, rfl⟩
            have hsl := Plain.skip_lo g n (j + 1)
            have hsh := Plain.skip_hi g n (j + 1) (by omega)
            generalize hs : Plain.skip g n (j + 1) = t at *
            have HT := hid hs
            clear hs
            cases ht : ((t : Int) == (j : Int) + 1) with
            | true =>
              go_wp2
              go_ret
              exact ⟨ret_int (by rw [HQ2.out, frac_dot hjn (beq_yes h46), HT.out, if_pos (by rw [beq_iff_eq] at ht; omega)]; rfl), rfl⟩
            | false =>
              go_wp2
              go_meet
              case rel => exact ⟨t, hsh, rfl, rfl, by show _ = _; rw [HQ2.out, frac_dot hjn (beq_yes h46), HT.out, if_neg (by rw [beq_eq_false_iff_ne] at ht; omega)]⟩
          | false =>
            go_wp2
            go_meet
            case rel => exact ⟨j, hj, rfl, rfl, HQ2.out.trans (frac_no (fun e => beq_no h46 e.2))⟩
        case rest =>
          clear hcj hjn hj
          obtain ⟨m, hm, rfl, rfl, HQ3⟩ := hcut
          clear HQ2
          by_cases hm2 : m < n
          · have hcm := HR.out m hm2
            cases h101 : (g m == 101) with
            | true =>
              have EE : g m = 101 ∨ g m = 69 := .inl (beq_yes h101)
              have EE := hid EE
              by_cases hs1 : m + 1 < n
              · have hc1 := HR.out (m + 1) hs1
                cases h43 : (g (m + 1) == 43) with
                | true =>
                  go_wp2_with fail
                  refine (skip_at b off n c (m + 2) _ g _ hn HR.out (by omega) (by omega)).mono ?_
                  rintro e w' ⟨rfl, rfl⟩
                  have hsl := Plain.skip_lo g n (m + 2)
                  have hsh := Plain.skip_hi g n (m + 2) (by omega)
                  generalize hs : Plain.skip g n (m + 2) = t at *
                  have HT := hid hs
                  clear hs
                  cases ht : ((t : Int) == (m : Int) + 1 + 1) with
                  | true =>
                    go_wp2
                    go_ret
                    exact ⟨ret_int (by rw [HQ3.out, expo_sign hm2 EE.out hs1 (.inl (beq_yes h43)), HT.out, if_pos (by rw [beq_iff_eq] at ht; omega)]; rfl), rfl⟩
                  | false =>
                    go_wp2
                    go_ret
                    exact ⟨ret_int (by rw [HQ3.out, expo_sign hm2 EE.out hs1 (.inl (beq_yes h43)), HT.out, if_neg (by rw [beq_eq_false_iff_ne] at ht; omega)]; omega), rfl⟩
                | false =>
                  cases h45 : (g (m + 1) == 45) with
                  | true =>
                    go_wp2_with fail
                    refine (skip_at b off n c (m + 2) _ g _ hn HR.out (by omega) (by omega)).mono ?_
                    rintro e w' ⟨rfl, rfl⟩
                    have hsl := Plain.skip_lo g n (m + 2)
                    have hsh := Plain.skip_hi g n (m + 2) (by omega)
                    generalize hs : Plain.skip g n (m + 2) = t at *
                    have HT := hid hs
                    clear hs
                    cases ht : ((t : Int) == (m : Int) + 1 + 1) with
                    | true =>
                      go_wp2
                      go_ret
                      exact ⟨ret_int (by rw [HQ3.out, expo_sign hm2 EE.out hs1 (.inr (beq_yes h45)), HT.out, if_pos (by rw [beq_iff_eq] at ht; omega)]; rfl), rfl⟩
                    | false =>
                      go_wp2
                      go_ret
                      exact ⟨ret_int (by rw [HQ3.out, expo_sign hm2 EE.out hs1 (.inr (beq_yes h45)), HT.out, if_neg (by rw [beq_eq_false_iff_ne] at ht; omega)]; omega), rfl⟩
                  | false =>
                    go_wp2_with fail
                    refine (skip_at b off n c (m + 1) _ g _ hn HR.out (by omega) (by omega)).mono ?_
                    rintro e w' ⟨rfl, rfl⟩
                    have hsl := Plain.skip_lo g n (m + 1)
                    have hsh := Plain.skip_hi g n (m + 1) (by omega)
                    generalize hs : Plain.skip g n (m + 1) = t at *
                    have HT := hid hs
                    clear hs
                    cases ht : ((t : Int) == (m : Int) + 1) with
                    | true =>
                      go_wp2
                      go_ret
                      exact ⟨ret_int (by rw [HQ3.out, expo_bare hm2 EE.out (fun e => e.2.elim (beq_no h43) (beq_no h45)), HT.out, if_pos (by rw [beq_iff_eq] at ht; omega)]; rfl), rfl⟩
                    | false =>
                      go_wp2
                      go_ret
                      exact ⟨ret_int (by rw [HQ3.out, expo_bare hm2 EE.out (fun e => e.2.elim (beq_no h43) (beq_no h45)), HT.out, if_neg (by rw [beq_eq_false_iff_ne] at ht; omega)]; omega), rfl⟩
              · go_wp2_with fail
                refine (skip_at b off n c (m + 1) _ g _ hn HR.out (by omega) (by omega)).mono ?_
                rintro e w' ⟨rfl, rfl⟩
                have hsl := Plain.skip_lo g n (m + 1)
                have hsh := Plain.skip_hi g n (m + 1) (by omega)
                generalize hs : Plain.skip g n (m + 1) = t at *
                have HT := hid hs
                clear hs
                cases ht : ((t : Int) == (m : Int) + 1) with
                | true =>
                  go_wp2
                  go_ret
                  exact ⟨ret_int (by rw [HQ3.out, expo_bare hm2 EE.out (fun e => hs1 e.1), HT.out, if_pos (by rw [beq_iff_eq] at ht; omega)]; rfl), rfl⟩
                | false =>
                  go_wp2
                  go_ret
                  exact ⟨ret_int (by rw [HQ3.out, expo_bare hm2 EE.out (fun e => hs1 e.1), HT.out, if_neg (by rw [beq_eq_false_iff_ne] at ht; omega)]; omega), rfl⟩
            | false =>
              cases h69 : (g m == 69) with
              | true =>
                have EE : g m = 101 ∨ g m = 69 := .inr (beq_yes h69)
                have EE := hid EE
                by_cases hs1 : m + 1 < n
                · have hc1 := HR.out (m + 1) hs1
                  cases h43 : (g (m + 1) == 43) with
                  | true =>
                    go_wp2_with fail
                    refine (skip_at b off n c (m + 2) _ g _ hn HR.out (by omega) (by omega)).mono ?_
                    rintro e w' ⟨rfl, rfl⟩
                    have hsl := Plain.skip_lo g n (m + 2)
                    have hsh := Plain.skip_hi g n (m + 2) (by omega)
                    generalize hs : Plain.skip g n (m + 2) = t at *
                    have HT := hid hs
                    clear hs
                    cases ht : ((t : Int) == (m : Int) + 1 + 1) with
                    | true =>
                      go_wp2
                      go_ret
                      exact ⟨ret_int (by rw [HQ3.out, expo_sign hm2 EE.out hs1 (.inl (beq_yes h43)), HT.out, if_pos (by rw [beq_iff_eq] at ht; omega)]; rfl), rfl⟩
                    | false =>
                      go_wp2
                      go_ret
                      exact ⟨ret_int (by rw [HQ3.out, expo_sign hm2 EE.out hs1 (.inl (beq_yes h43)), HT.out, if_neg (by rw [beq_eq_false_iff_ne] at ht; omega)]; omega), rfl⟩
                  | false =>
                    cases h45 : (g (m + 1) == 45) with
                    | true =>
                      go_wp2_with fail
                      refine (skip_at b off n c (m + 2) _ g _ hn HR.out (by omega) (by omega)).mono ?_
                      rintro e w' ⟨rfl, rfl⟩
                      have hsl := Plain.skip_lo g n (m + 2)
                      have hsh := Plain.skip_hi g n (m + 2) (by omega)
                      generalize hs : Plain.skip g n (m + 2) = t at *
                      have HT := hid hs
                      clear hs
                      cases ht : ((t : Int) == (m : Int) + 1 + 1) with
                      | true =>
                        go_wp2
                        go_ret
                        exact ⟨ret_int (by rw [HQ3.out, expo_sign hm2 EE.out hs1 (.inr (beq_yes h45)), HT.out, if_pos (by rw [beq_iff_eq] at ht; omega)]; rfl), rfl⟩
                      | false =>
                        go_wp2
                        go_ret
                        exact ⟨ret_int (by rw [HQ3.out, expo_sign hm2 EE.out hs1 (.inr (beq_yes h45)), HT.out, if_neg (by rw [beq_eq_false_iff_ne] at ht; omega)]; omega), rfl⟩
                    | false =>
                      go_wp2_with fail
                      refine (skip_at b off n c (m + 1) _ g _ hn HR.out (by omega) (by omega)).mono ?_
                      rintro e w' ⟨rfl, rfl⟩
                      have hsl := Plain.skip_lo g n (m + 1)
                      have hsh := Plain.skip_hi g n (m + 1) (by omega)
                      generalize hs : Plain.skip g n (m + 1) = t at *
                      have HT := hid hs
                      clear hs
                      cases ht : ((t : Int) == (m : Int) + 1) with
                      | true =>
                        go_wp2
                        go_ret
                        exact ⟨ret_int (by rw [HQ3.out, expo_bare hm2 EE.out (fun e => e.2.elim (beq_no h43) (beq_no h45)), HT.out, if_pos (by rw [beq_iff_eq] at ht; omega)]; rfl), rfl⟩
                      | false =>
                        go_wp2
                        go_ret
                        exact ⟨ret_int (by rw [HQ3.out, expo_bare hm2 EE.out (fun e => e.2.elim (beq_no h43) (beq_no h45)), HT.out, if_neg (by rw [beq_eq_false_iff_ne] at ht; omega)]; omega), rfl⟩
                · go_wp2_with fail
                  refine (skip_at b off n c (m + 1) _ g _ hn HR.out (by omega) (by omega)).mono ?_
                  rintro e w' ⟨rfl, rfl⟩
                  have hsl := Plain.skip_lo g n (m + 1)
                  have hsh := Plain.skip_hi g n (m + 1) (by omega)
                  generalize hs : Plain.skip g n (m + 1) = t at *
                  have HT := hid hs
                  clear hs
                  cases ht : ((t : Int) == (m : Int) + 1) with
                  | true =>
                    go_wp2
                    go_ret
                    exact ⟨ret_int (by rw [HQ3.out, expo_bare hm2 EE.out (fun e => hs1 e.1), HT.out, if_pos (by rw [beq_iff_eq] at ht; omega)]; rfl), rfl⟩
                  | false =>
                    go_wp2
                    go_ret
                    exact ⟨ret_int (by rw [HQ3.out, expo_bare hm2 EE.out (fun e => hs1 e.1), HT.out, if_neg (by rw [beq_eq_false_iff_ne] at ht; omega)]; omega), rfl⟩
              | false =>
                go_wp2
                go_ret
                exact ⟨ret_int (by rw [HQ3.out, expo_no (fun e => e.2.elim (beq_no h101) (beq_no h69))]; omega), rfl⟩
          · go_wp2
            go_ret
            exact ⟨ret_int (by rw [HQ3.out, expo_no (fun e => hm2 e.1)]; omega), rfl⟩
      · go_wp2
        go_ret
        exact ⟨ret_int (by rw [HQ2.out, frac_no (fun e => hjn e.1), expo_no (fun e => hjn e.1)]; omega), rfl⟩
end Go.Proofs.Qxb6602448a
