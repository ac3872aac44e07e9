/-
  THE PROOF OF 'Rows.FnQuotedLenKeepsItsAnswerWhenTextIsAppendedSaid'. The frame is the given shell's (written by program); the walk is mine; the closed facts on the program's head are taken from Qxb6602355aFrame.lean.
-/
import Derived.Test.Qxb6602355aRows
import Derived.Test.Qxb6602355aQuoted
import Derived.Test.Qxb6602355aFrame
import Derived.WalkKit
import Derived.ProofKit
import Derived.OpenShut
import Derived.ShutString
namespace Go.Proofs.Qxb6602355a.fnQuotedLenKeepsItsAnswerWhenTextIsAppended
open Go.ChangeShapes Go.WideShapes Go.ChangeAt Go.RowKit
open Go.ChangeMaps (open_string shut_string)
set_option linter.unusedVariables false      -- a walk need not use every 'w<i>' (that an integer argument fits its kind)

theorem own : ownKnob Try.prog.godebug = none := by kernel_rfl

/-! ### STEP 1: THE WALK: the Go text returns true. 'Grown w w'': the world has at most new blocks (Derived/RowKit3.lean). Part the cases AHEAD of 'go_enter' where a test parts the walk; take each callee by a contract of your own. -/
theorem zz_small (s t : ByteArray) (h : s.size + t.size ≤ 1048576) (w : World) :
    Calls Try.prog 14 #[.string s, .string t] w fun e w' => e = .returned (.bool true) ∧ w' = w := by
  go_enter Try.func14, Try.ntmps14
  go_wp2
  go_ret
  exact ⟨rfl, rfl⟩
theorem zz_big (s t : ByteArray) (h : ¬ s.size + t.size ≤ 1048576) (w0 : s.size ≤ maxLen) (w1 : t.size ≤ maxLen) (w : World) :
    Calls Try.prog 14 #[.string s, .string t] w fun e w' => e = .returned (.bool false) ∧ w' = w := by
  unfold maxLen at w0 w1
  go_enter Try.func14, Try.ntmps14
  go_wp2
  all_goals (go_ret; exact ⟨rfl, rfl⟩)
theorem gs_app (s t : ByteArray) (k : Nat) (h : k < s.size) : gs s k = gs (s ++ t) k := by
  have h' : k < (s ++ t).size := by rw [ByteArray.size_append]; omega
  rw [gs_at s k h, gs_at (s ++ t) k h', ByteArray.getElem_append_left h]
theorem fin_eq {a b : Nat} (h : a = b) : ((a : Int) == (b : Int)) = true := by rw [beq_iff_eq, h]
theorem fin_or {a n : Nat} (h : a = 1 ∨ n < a) : (((a : Int) == 1) || decide (n < a)) = true := by
  rw [Bool.or_eq_true, beq_iff_eq, decide_eq_true_eq]; omega

set_option maxHeartbeats 1000000 in
theorem walk (a0 : ByteArray) (a1 : ByteArray) (w0 : a0.size ≤ maxLen) (w1 : a1.size ≤ maxLen) (w : World) :
    Calls Try.prog 4 #[.string a0, .string a1] w fun e w' => e = .returned (.bool true) ∧ Grown w w' := by
  by_cases hb : a0.size + a1.size ≤ 1048576
  · by_cases h0 : a0.size = 0
    · have hz : ((a0.size : Int) == 0) = true := by rw [beq_iff_eq]; omega
      go_enter Try.func4, Try.ntmps4
      go_wp2_with (go_at_call 14; refine (zz_small _ _ hb _).mono ?_; rintro e w' ⟨rfl, rfl⟩)
      go_ret
      exact ⟨rfl, Grown.refl _⟩
    · have hz : ((a0.size : Int) == 0) = false := by rw [beq_eq_false_iff_ne]; omega
      have hp : 0 < a0.size := by omega
      have hs : (a0 ++ a1).size = a0.size + a1.size := ByteArray.size_append ..
      have law := Plain.qlen_app (gs a0) (gs (a0 ++ a1)) a0.size (a0.size + a1.size) hp (by omega) (fun j hj => gs_app a0 a1 j hj)
      have LAW : Hid _ := law
      have h2 : (a0 ++ a1).size ≤ 1048576 := by omega
      have h3 : 0 < (a0 ++ a1).size := by omega
      clear law hs
      by_cases hq : 1 < Plain.qlen (gs a0) a0.size
      all_goals
        go_enter Try.func4, Try.ntmps4
        go_wp2_with (go_at_call 14; refine (zz_small _ _ hb _).mono ?_; rintro e w' ⟨rfl, rfl⟩)
        refine (zzQuotedLen_any a0 _ (by omega) hp).mono ?_
        rintro e w1 ⟨rfl, rfl⟩
        go_wp2_with fail
        refine (zzQuotedLen_any (a0 ++ a1) _ h2 h3).mono ?_
        rintro e w1 ⟨rfl, rfl⟩
        go_wp2
      · go_ret
        exact ⟨ret_bool (fin_eq (LAW.out.1 hq)), Grown.refl _⟩
      · go_ret
        exact ⟨rfl, Grown.refl _⟩
      · go_ret
        exact ⟨ret_bool (fin_or (LAW.out.2 hq)), Grown.refl _⟩
  · go_enter Try.func4, Try.ntmps4
    go_wp2_with (go_at_call 14; refine (zz_big _ _ hb w0 w1 _).mono ?_; rintro e w' ⟨rfl, rfl⟩)
    go_ret
    exact ⟨rfl, Grown.refl _⟩

/-! ### THE ROW's STEP: WRITTEN OUT: LEAVE IT -/
set_option maxRecDepth 100000 in
theorem lifted (os : Os) (started : os.Started) (H : Type) (enc : TypeId × Value → H) :
    ReturnsInHanded {} Try.checked os 4 .any (Rows.fnQuotedLenKeepsItsAnswerWhenTextIsAppendedSpec.pre6 enc Try.prog Try.f4 Rows.fnQuotedLenKeepsItsAnswerWhenTextIsAppendedRow.domain false) (Rows.fnQuotedLenKeepsItsAnswerWhenTextIsAppendedSpec.post enc Try.prog Try.f4 false true false false) := by
  refine returnsInHanded_of_change (C := Try.checked) own started (by kernel_rfl) Try.func4
    (ChangeSpec.witness6 (enc := enc) (C := Try.checked) false ⟨#[], #[.string ByteArray.empty, .string ByteArray.empty], []⟩ 8 (by kernel_rfl) (by kernel_rfl) (by kernel_rfl) (by kernel_rfl)) ?_
  intro W base args ds gs before hval0 hW hcnd _
  have hval : ∀ (j : Nat) t v, Try.f4.params[j]? = some t → args[j]? = some v → Value.okWide Try.prog W .any base t v := hval0
  have hW' := hW
  obtain ⟨p, q, hA0, hV, rfl, hfz, hnd⟩ := hW
  have hA : DataW.TrodAll enc Try.prog W 0 (fun _ => true) true Try.f4.params.toList args.toList ds p := hA0
  rw [Try.params4] at hA hval
  obtain ⟨v0, vs0, d0, ds0, p0, q0, hargs, rfl, rfl, h0, r0⟩ := trodAll_cons hA
  obtain ⟨v1, vs1, d1, ds1, p1, q1, rfl, rfl, rfl, h1, r1⟩ := trodAll_cons r0
  obtain ⟨rfl, rfl, rfl⟩ := trodAll_nil r1
  obtain rfl : args = #[v0, v1] := by cases args; simp_all
  obtain ⟨rfl, rfl⟩ := trodVars_none hV
  obtain ⟨a0, rfl, rfl, rfl, w0⟩ := open_string Try.underlying9 (hval 0 9 v0 rfl rfl) h0
  obtain ⟨a1, rfl, rfl, rfl, w1⟩ := open_string Try.underlying9 (hval 1 9 v1 rfl rfl) h1
  clear hA0 hval0
  simp only [List.append_nil] at hW'
  refine (walk a0 a1 w0 w1 W).mono fun e W' ⟨he, hg⟩ => ?_
  subst he
  exact ⟨_, rfl, post_of_same (pa := []) (pv := []) hW' (fun _ _ _ => (trodAll_cons_mk (shut_bool Try.underlying4 _) trodAll_mk0)) (fun sp _ => (trodAll_cons_mk (shut_string Try.underlying9 w0) (trodAll_cons_mk (shut_string Try.underlying9 w1) trodAll_mk0))) (fun _ _ => rfl) rfl
    (hg.frame _) hg.2.1 (ok_one (by kernel_rfl) rfl (okWide_bool_mk Try.underlying4 _))⟩

set_option maxRecDepth 100000 in
theorem closed : joinedFacts Try.pinned.checked.prog 4 Try.f4 Rows.fnQuotedLenKeepsItsAnswerWhenTextIsAppendedSpec Rows.fnQuotedLenKeepsItsAnswerWhenTextIsAppendedRow = true := by
  unfold joinedFacts
  rw [liftsFinal_ok, make_ok, mayEnter_ok]
  kernel_rfl

theorem over : Rows.fnQuotedLenKeepsItsAnswerWhenTextIsAppendedRow.holds Try.pinned (OpenSpec.ofChange Rows.fnQuotedLenKeepsItsAnswerWhenTextIsAppendedSpec) :=
  OpenClaim.holds_of_wide 4 Try.f4 rfl rfl rfl rfl rfl rfl rfl ⟨rfl, rfl, rfl, rfl, rfl⟩ rfl rfl rfl rfl rfl (by kernel_rfl) Try.func4 closed
    (of_decide_eq_true (by kernel_rfl)) (by unfold Func.isWrapper; first | (rw [if_pos (by decide +kernel)]; kernel_rfl) | (rw [if_neg (by decide +kernel)]; exact ⟨rfl, rfl⟩))
    (fun os started H enc _ => lifted os started H enc)

/-- ████ THE STATEMENT ████ -/
theorem proved : Rows.FnQuotedLenKeepsItsAnswerWhenTextIsAppendedSaid :=
  over
end Go.Proofs.Qxb6602355a.fnQuotedLenKeepsItsAnswerWhenTextIsAppended
