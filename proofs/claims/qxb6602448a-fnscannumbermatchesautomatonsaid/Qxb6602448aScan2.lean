/-
  scanNumber AT OR PAST THE END; ZZscanNumber (seat b6602448a).
-/
import Derived.Test.Qxb6602448aScan
namespace Go.Proofs.Qxb6602448a
open Go.ChangeShapes Go.WideShapes Go.ChangeAt Go.RowKit

theorem scan_past {g : Nat → Int} {n i : Nat} (h : ¬ i < n) : Plain.scan g n i = 0 := by
  have := Plain.scan_bd g n i
  omega

set_option maxHeartbeats 400000 in
/-- At or past the end: -1, whatever the slice's address. -/
theorem scan_out (a : Option Addr) (n c : Nat) (i : Int) (w : World) (hi : (n : Int) ≤ i) :
    Calls Try.prog 12 #[.slice a n c, .int .i64 i] w fun e w' => e = .returned (.int .i64 (-1)) ∧ w' = w := by
  go_enter Try.func12, Try.ntmps12
  go_wp2
  go_ret
  exact ⟨rfl, rfl⟩

theorem zzScan_out (a : Option Addr) (n c : Nat) (i : Int) (w : World) (hi : (n : Int) ≤ i) :
    Calls Try.prog 8 #[.slice a n c, .int .i64 i] w fun e w' => e = .returned (.int .i64 (-1)) ∧ w' = w := by
  go_enter Try.func8, Try.ntmps8
  go_wp2_with (go_at_call 12; refine (scan_out _ _ _ _ _ hi).mono ?_; rintro e w' ⟨rfl, rfl⟩)
  go_ret
  exact ⟨rfl, rfl⟩

theorem zzScan_any (b off n c i : Nat) (t : Int) (g : Nat → Int) (w : World) (hn : n ≤ 1048576) (hr : RowAt w b off n g) (ht : t = (i : Int)) :
    Calls Try.prog 8 #[.slice (some ⟨b, off, none⟩) n c, .int .i64 t] w fun e w' => e = .returned (.int .i64 ((Plain.scan g n i : Int) - 1)) ∧ w' = w := by
  subst ht
  by_cases hi : i < n
  · have HC := hid (scan_any b off n c i g w hn hr hi)
    clear hr
    go_enter Try.func8, Try.ntmps8
    go_wp2_with fail
    refine HC.out.mono ?_
    rintro e w' ⟨rfl, rfl⟩
    go_wp2
    go_ret
    exact ⟨rfl, rfl⟩
  · rw [scan_past hi]
    exact zzScan_out (some ⟨b, off, none⟩) n c i w (by omega)
end Go.Proofs.Qxb6602448a
