/-
  THE PROOF OF 'Rows.FnQuotedLenMatchesParityModelSaid'. The frame is the given shell's (written by program); the walk is mine; the closed facts on the program's head are taken from Qxb6602355aFrame.lean.
-/
import Derived.Test.Qxb6602355aRows
import Derived.Test.Qxb6602355aParity
import Derived.Test.Qxb6602355aFrame
import Derived.WalkKit
import Derived.ProofKit
import Derived.OpenShut
import Derived.ShutString
namespace Go.Proofs.Qxb6602355a.fnQuotedLenMatchesParityModel
open Go.ChangeShapes Go.WideShapes Go.ChangeAt Go.RowKit
open Go.ChangeMaps (open_string shut_string)
set_option linter.unusedVariables false      -- a walk need not use every 'w<i>' (that an integer argument fits its kind)

theorem own : ownKnob Try.prog.godebug = none := by kernel_rfl

/-! ### STEP 1: THE WALK: the Go text returns true. 'Grown w w'': the world has at most new blocks (Derived/RowKit3.lean). Part the cases AHEAD of 'go_enter' where a test parts the walk; take each callee by a contract of your own. -/
theorem zz_small (s : ByteArray) (h : s.size ≤ 1048576) (w : World) :
    Calls Try.prog 11 #[.string s] w fun e w' => e = .returned (.bool true) ∧ w' = w := by
  go_enter Try.func11, Try.ntmps11
  go_wp2
  go_ret
  exact ⟨rfl, rfl⟩
theorem zz_big (s : ByteArray) (h : ¬ s.size ≤ 1048576) (w0 : s.size ≤ maxLen) (w : World) :
    Calls Try.prog 11 #[.string s] w fun e w' => e = .returned (.bool false) ∧ w' = w := by
  unfold maxLen at w0
  go_enter Try.func11, Try.ntmps11
  go_wp2
  all_goals (go_ret; exact ⟨rfl, rfl⟩)
theorem fin_eq {a b : Nat} (h : a = b) : ((a : Int) == (b : Int)) = true := by rw [beq_iff_eq, h]

set_option maxHeartbeats 1000000 in
theorem walk (a0 : ByteArray) (w0 : a0.size ≤ maxLen) (w : World) :
    Calls Try.prog 3 #[.string a0] w fun e w' => e = .returned (.bool true) ∧ Grown w w' := by
  by_cases hb : a0.size ≤ 1048576
  · by_cases h0 : a0.size = 0
    · have hz : ((a0.size : Int) == 0) = true := by rw [beq_iff_eq]; omega
      go_enter Try.func3, Try.ntmps3
      go_wp2_with (go_at_call 11; refine (zz_small _ hb _).mono ?_; rintro e w' ⟨rfl, rfl⟩)
      go_ret
      exact ⟨rfl, Grown.refl _⟩
    · have hz : ((a0.size : Int) == 0) = false := by rw [beq_eq_false_iff_ne]; omega
      have hp : 0 < a0.size := by omega
      have LAW : Hid _ := Plain.qmodel_eq (gs a0) a0.size
      go_enter Try.func3, Try.ntmps3
      go_wp2_with (first | (go_at_call 11; refine (zz_small _ hb _).mono ?_; rintro e w' ⟨rfl, rfl⟩) | (go_at_call 12; refine (zzQuotedLen_any _ _ hb hp).mono ?_; rintro e w' ⟨rfl, rfl⟩) | (go_at_call 13; refine (qmodel_any _ _ hb hp).mono ?_; rintro e w' ⟨rfl, rfl⟩))
      go_ret
      exact ⟨ret_bool (fin_eq LAW.out.symm), Grown.refl _⟩
  · go_enter Try.func3, Try.ntmps3
    go_wp2_with (go_at_call 11; refine (zz_big _ hb w0 _).mono ?_; rintro e w' ⟨rfl, rfl⟩)
    go_ret
    exact ⟨rfl, Grown.refl _⟩

/-! ### THE ROW's STEP: WRITTEN OUT: LEAVE IT -/
set_option maxRecDepth 100000 in
theorem lifted (os : Os) (started : os.Started) (H : Type) (enc : TypeId × Value → H) :
    ReturnsInHanded {} Try.checked os 3 .any (Rows.fnQuotedLenMatchesParityModelSpec.pre6 enc Try.prog Try.f3 Rows.fnQuotedLenMatchesParityModelRow.domain false) (Rows.fnQuotedLenMatchesParityModelSpec.post enc Try.prog Try.f3 false true false false) := by
  refine returnsInHanded_of_change (C := Try.checked) own started (by kernel_rfl) Try.func3
    (ChangeSpec.witness6 (enc := enc) (C := Try.checked) false ⟨#[], #[.string ByteArray.empty], []⟩ 8 (by kernel_rfl) (by kernel_rfl) (by kernel_rfl) (by kernel_rfl)) ?_
  intro W base args ds gs before hval0 hW hcnd _
  have hval : ∀ (j : Nat) t v, Try.f3.params[j]? = some t → args[j]? = some v → Value.okWide Try.prog W .any base t v := hval0
  have hW' := hW
  obtain ⟨p, q, hA0, hV, rfl, hfz, hnd⟩ := hW
  have hA : DataW.TrodAll enc Try.prog W 0 (fun _ => true) true Try.f3.params.toList args.toList ds p := hA0
  rw [Try.params3] at hA hval
  obtain ⟨v0, vs0, d0, ds0, p0, q0, hargs, rfl, rfl, h0, r0⟩ := trodAll_cons hA
  obtain ⟨rfl, rfl, rfl⟩ := trodAll_nil r0
  obtain rfl : args = #[v0] := by cases args; simp_all
  obtain ⟨rfl, rfl⟩ := trodVars_none hV
  obtain ⟨a0, rfl, rfl, rfl, w0⟩ := open_string Try.underlying9 (hval 0 9 v0 rfl rfl) h0
  clear hA0 hval0
  simp only [List.append_nil] at hW'
  refine (walk a0 w0 W).mono fun e W' ⟨he, hg⟩ => ?_
  subst he
  exact ⟨_, rfl, post_of_same (pa := []) (pv := []) hW' (fun _ _ _ => (trodAll_cons_mk (shut_bool Try.underlying4 _) trodAll_mk0)) (fun sp _ => (trodAll_cons_mk (shut_string Try.underlying9 w0) trodAll_mk0)) (fun _ _ => rfl) rfl
    (hg.frame _) hg.2.1 (ok_one (by kernel_rfl) rfl (okWide_bool_mk Try.underlying4 _))⟩

set_option maxRecDepth 100000 in
theorem closed : joinedFacts Try.pinned.checked.prog 3 Try.f3 Rows.fnQuotedLenMatchesParityModelSpec Rows.fnQuotedLenMatchesParityModelRow = true := by
  unfold joinedFacts
  rw [liftsFinal_ok, make_ok, mayEnter_ok]
  kernel_rfl

theorem over : Rows.fnQuotedLenMatchesParityModelRow.holds Try.pinned (OpenSpec.ofChange Rows.fnQuotedLenMatchesParityModelSpec) :=
  OpenClaim.holds_of_wide 3 Try.f3 rfl rfl rfl rfl rfl rfl rfl ⟨rfl, rfl, rfl, rfl, rfl⟩ rfl rfl rfl rfl rfl (by kernel_rfl) Try.func3 closed
    (of_decide_eq_true (by kernel_rfl)) (by unfold Func.isWrapper; first | (rw [if_pos (by decide +kernel)]; kernel_rfl) | (rw [if_neg (by decide +kernel)]; exact ⟨rfl, rfl⟩))
    (fun os started H enc _ => lifted os started H enc)

/-- ████ THE STATEMENT ████ -/
theorem proved : Rows.FnQuotedLenMatchesParityModelSaid :=
  over
end Go.Proofs.Qxb6602355a.fnQuotedLenMatchesParityModel
