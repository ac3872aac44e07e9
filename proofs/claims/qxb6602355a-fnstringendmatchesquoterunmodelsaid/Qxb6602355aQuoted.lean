/-
  THE WALKS OF quotedLen AND ITS CALLERS' HELPERS (seat b6602355a).
-/
import Derived.Test.Qxb6602355aRows
import Derived.Test.Qxb6602355aPlain
import Derived.WalkKit
import Derived.ProofKit
import Derived.OpenShut
import Derived.ShutString
namespace Go.Proofs.Qxb6602355a
open Go.ChangeShapes Go.WideShapes Go.ChangeAt Go.RowKit

/-- The bytes of a string, as numbers. -/
def gs (s : ByteArray) (k : Nat) : Int := ((s.data.toList.getD k 0).toNat : Int)
theorem gs_at (s : ByteArray) (k : Nat) (h : k < s.size) : gs s k = ((s[k]'h).toNat : Int) := by
  unfold gs
  have h' : k < s.data.size := h
  rw [List.getD_eq_getElem?_getD, List.getElem?_eq_getElem (by simpa using h')]
  rfl
theorem ret_int {k : IntKind} {a b : Int} (h : a = b) : Ending.returned (.int k a) = .returned (.int k b) := by rw [h]
theorem ret_bool {a b : Bool} (h : a = b) : Ending.returned (.bool a) = .returned (.bool b) := by rw [h]
theorem beq_yes {a b : Int} (h : (a == b) = true) : a = b := by simpa using h
theorem beq_no {a b : Int} (h : (a == b) = false) : ¬ a = b := by simpa using h

theorem qlen_none {g : Nat → Int} {n : Nat} (h0 : g 0 = 34) (h : Plain.qscan g n 1 = 0) : Plain.qlen g n = 1 := by
  unfold Plain.qlen; rw [if_pos h0, if_pos h]
theorem qlen_some {g : Nat → Int} {n r : Nat} (h0 : g 0 = 34) (h : Plain.qscan g n 1 = r + 1) : Plain.qlen g n = r + 1 := by
  unfold Plain.qlen; rw [if_pos h0, if_neg (by omega), h]
theorem qlen_other {g : Nat → Int} {n : Nat} (h0 : ¬ g 0 = 34) : Plain.qlen g n = 1 := by
  unfold Plain.qlen; rw [if_neg h0]

set_option maxHeartbeats 400000 in
theorem quotedLen_loop (s : ByteArray) (w : World) (hs : s.size ≤ 1048576) (h1 : 0 < s.size) (h0 : gs s 0 = 34) :
    Calls Try.prog 28 #[.string s] w fun e w' => e = .returned (.int .i64 (Plain.qlen (gs s) s.size)) ∧ w' = w := by
  have H0 : Hid (gs s 0 = 34) := h0
  have e0 := gs_at s 0 h1
  have hc0 : ((s[0]'h1).toNat : Int) = 34 := by omega
  clear e0 h0
  go_enter Try.func28, Try.ntmps28
  go_wp2
  go_loop [3] (fun i => ∃ k : Nat, 1 ≤ k ∧ k ≤ s.size + 1 ∧ i = .int .i64 k ∧ Hid (Plain.qscan (gs s) s.size k = Plain.qscan (gs s) s.size 1)) (fun i => s.size + 1 - (intOf i).toNat)
  case atStart => exact ⟨1, by omega, by omega, rfl, rfl⟩
  case round =>
    obtain ⟨k, hk1, hk2, rfl, HQ⟩ := hrel
    by_cases hlt : k < s.size
    · have eg : Hid (gs s k = ((s[k]'hlt).toNat : Int)) := gs_at s k hlt
      go_wp2
      · have hb : ((s[k]'hlt).toNat : Int) = 92 := beq_yes (by assumption)
        go_round
        case rel => exact ⟨k + 2, by omega, by omega, by go_num, (Plain.qscan_back hlt (by rw [eg.out]; exact hb)).symm.trans HQ.out⟩
        case measure => simp [intOf]; omega
      · have hb : ((s[k]'hlt).toNat : Int) = 34 := beq_yes (by assumption)
        go_ret
        exact ⟨ret_int (by rw [qlen_some H0.out (HQ.out.symm.trans (Plain.qscan_hit hlt (by rw [eg.out]; exact hb)))]; rfl), rfl⟩
      · have hb : ¬ ((s[k]'hlt).toNat : Int) = 92 := beq_no (by assumption)
        have hq : ¬ ((s[k]'hlt).toNat : Int) = 34 := beq_no (by assumption)
        go_round
        case rel => exact ⟨k + 1, by omega, by omega, by go_num, (Plain.qscan_go hlt (by rw [eg.out]; exact hb) (by rw [eg.out]; exact hq)).symm.trans HQ.out⟩
        case measure => simp [intOf]; omega
    · go_wp2
      go_ret
      exact ⟨ret_int (by rw [qlen_none H0.out (HQ.out.symm.trans (Plain.qscan_end hlt))]; rfl), rfl⟩

set_option maxHeartbeats 400000 in
theorem quotedLen_other (s : ByteArray) (w : World) (h1 : 0 < s.size) (h0 : ¬ gs s 0 = 34) :
    Calls Try.prog 28 #[.string s] w fun e w' => e = .returned (.int .i64 (Plain.qlen (gs s) s.size)) ∧ w' = w := by
  have hq := qlen_other (n := s.size) h0
  have HQ : Hid (Plain.qlen (gs s) s.size = 1) := hq
  have e0 := gs_at s 0 h1
  have hc0 : (((s[0]'h1).toNat : Int) != 34) = true := by rw [bne_iff_ne]; omega
  clear e0 h0 hq
  go_enter Try.func28, Try.ntmps28
  go_wp2
  go_ret
  exact ⟨ret_int (by rw [HQ.out]; rfl), rfl⟩

theorem quotedLen_any (s : ByteArray) (w : World) (hs : s.size ≤ 1048576) (h1 : 0 < s.size) :
    Calls Try.prog 28 #[.string s] w fun e w' => e = .returned (.int .i64 (Plain.qlen (gs s) s.size)) ∧ w' = w := by
  by_cases h0 : gs s 0 = 34
  · exact quotedLen_loop s w hs h1 h0
  · exact quotedLen_other s w h1 h0

theorem zzQuotedLen_any (s : ByteArray) (w : World) (hs : s.size ≤ 1048576) (h1 : 0 < s.size) :
    Calls Try.prog 12 #[.string s] w fun e w' => e = .returned (.int .i64 (Plain.qlen (gs s) s.size)) ∧ w' = w := by
  go_enter Try.func12, Try.ntmps12
  go_wp2_with (go_at_call 28; refine (quotedLen_any _ _ hs h1).mono ?_; rintro e w' ⟨rfl, rfl⟩)
  go_ret
  exact ⟨rfl, rfl⟩
end Go.Proofs.Qxb6602355a
