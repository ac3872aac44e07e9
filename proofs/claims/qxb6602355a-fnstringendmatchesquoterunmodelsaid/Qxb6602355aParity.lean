/-
  THE WALKS OF closingQuoteAfter AND quotedLenModel (seat b6602355a).
-/
import Derived.Test.Qxb6602355aQuoted
namespace Go.Proofs.Qxb6602355a
open Go.ChangeShapes Go.WideShapes Go.ChangeAt Go.RowKit

theorem mod_yes {m : Nat} (h : ((m : Int) % 2 == 0) = true) : m % 2 = 0 := by rw [beq_iff_eq] at h; omega
theorem mod_no {m : Nat} (h : ((m : Int) % 2 == 0) = false) : m % 2 = 1 := by rw [beq_eq_false_iff_ne] at h; omega
theorem bd_cqa (g : Nat → Int) (n : Nat) : Plain.cqa g n 1 0 = 0 ∨ (2 ≤ Plain.cqa g n 1 0 ∧ Plain.cqa g n 1 0 ≤ n) := by
  rw [Plain.cqa_eq g n (n - 1) 1 0 rfl]
  have := Plain.qscan_bd g n (n - 1) 1 rfl
  simpa using this

set_option maxHeartbeats 400000 in
theorem closing_any (s : ByteArray) (w : World) (hs : s.size ≤ 1048576) (h1 : 0 < s.size) :
    Calls Try.prog 29 #[.string s, .int .i64 0] w fun e w' => e = .returned (.int .i64 ((Plain.cqa (gs s) s.size 1 0 : Int) - 1)) ∧ w' = w := by
  go_enter Try.func29, Try.ntmps29
  go_wp2
  go_loop [5, 6] (fun b i => ∃ k m : Nat, 1 ≤ k ∧ k ≤ s.size ∧ m ≤ k ∧ i = .int .i64 k ∧ b = .int .i64 m ∧ Hid (Plain.cqa (gs s) s.size k m = Plain.cqa (gs s) s.size 1 0)) (fun _ i => s.size - (intOf i).toNat)
  case atStart => exact ⟨1, 0, by omega, by omega, by omega, rfl, rfl, rfl⟩
  case round =>
    obtain ⟨k, m, hk1, hk2, hm, rfl, rfl, HQ⟩ := hrel
    by_cases hlt : k < s.size
    · have eg : Hid (gs s k = ((s[k]'hlt).toNat : Int)) := gs_at s k hlt
      go_wp2
      · have hq : ((s[k]'hlt).toNat : Int) = 34 := by assumption
        have hb : m % 2 = 0 := mod_yes (by assumption)
        go_ret
        exact ⟨ret_int (by rw [← HQ.out, Plain.cqa_hit hlt (by rw [eg.out]; exact hq) hb]; omega), rfl⟩
      · have hq : ((s[k]'hlt).toNat : Int) = 34 := by assumption
        have hb : m % 2 = 1 := mod_no (by assumption)
        go_round
        case rel => exact ⟨k + 1, 0, by omega, by omega, by omega, by go_num, rfl, (Plain.cqa_odd hlt (by rw [eg.out]; exact hq) hb).symm.trans HQ.out⟩
        case measure => simp [intOf]; omega
      · have hb : ((s[k]'hlt).toNat : Int) = 92 := beq_yes (by assumption)
        go_round
        case rel => exact ⟨k + 1, m + 1, by omega, by omega, by omega, by go_num, by go_num, (Plain.cqa_back hlt (by rw [eg.out]; exact hb)).symm.trans HQ.out⟩
        case measure => simp [intOf]; omega
      · have hq : ¬ ((s[k]'hlt).toNat : Int) = 34 := by assumption
        have hb : ¬ ((s[k]'hlt).toNat : Int) = 92 := beq_no (by assumption)
        go_round
        case rel => exact ⟨k + 1, 0, by omega, by omega, by omega, by go_num, rfl, (Plain.cqa_go hlt (by rw [eg.out]; exact hb) (by rw [eg.out]; exact hq)).symm.trans HQ.out⟩
        case measure => simp [intOf]; omega
    · go_wp2
      go_ret
      exact ⟨ret_int (by rw [← HQ.out, Plain.cqa_end hlt]; rfl), rfl⟩

set_option maxHeartbeats 400000 in
theorem qmodel_any (s : ByteArray) (w : World) (hs : s.size ≤ 1048576) (h1 : 0 < s.size) :
    Calls Try.prog 13 #[.string s] w fun e w' => e = .returned (.int .i64 (Plain.qmodel (gs s) s.size)) ∧ w' = w := by
  have e0 := gs_at s 0 h1
  by_cases h0 : gs s 0 = 34
  · have HM : Hid (Plain.qmodel (gs s) s.size = if Plain.cqa (gs s) s.size 1 0 = 0 then 1 else Plain.cqa (gs s) s.size 1 0) := by
      show _ = _
      unfold Plain.qmodel
      rw [if_pos h0]
    have hc0 : (((s[0]'h1).toNat : Int) != 34) = false := by
      cases h : (((s[0]'h1).toNat : Int) != 34) with
      | false => rfl
      | true => rw [bne_iff_ne] at h; omega
    have hbd := bd_cqa (gs s) s.size
    clear e0 h0
    go_enter Try.func13, Try.ntmps13
    go_wp2_with fail
    refine (closing_any s _ hs h1).mono ?_
    rintro e w1 ⟨rfl, rfl⟩
    generalize hr : Plain.cqa (gs s) s.size 1 0 = r at *
    have HR : Hid _ := hr
    clear hr
    by_cases hz : r = 0
    · subst hz
      go_wp2
      go_ret
      exact ⟨ret_int (by rw [HM.out]; rfl), rfl⟩
    · have hz1 : 2 ≤ r := by omega
      have hz2 : r ≤ s.size := by omega
      go_wp2
      go_ret
      exact ⟨ret_int (by rw [HM.out, if_neg hz]), rfl⟩
  · have HM : Hid (Plain.qmodel (gs s) s.size = 1) := by
      show _ = _
      unfold Plain.qmodel
      rw [if_neg h0]
    have hc0 : (((s[0]'h1).toNat : Int) != 34) = true := by rw [bne_iff_ne]; omega
    clear e0 h0
    go_enter Try.func13, Try.ntmps13
    go_wp2
    go_ret
    exact ⟨ret_int (by rw [HM.out]; rfl), rfl⟩
end Go.Proofs.Qxb6602355a
