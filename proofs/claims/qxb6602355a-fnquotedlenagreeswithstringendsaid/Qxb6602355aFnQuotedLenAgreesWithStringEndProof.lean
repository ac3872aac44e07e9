/-
  THE PROOF OF 'Rows.FnQuotedLenAgreesWithStringEndSaid'. The frame is the given shell's (written by program); the walk is mine; the closed facts on the program's head are taken from Qxb6602355aFrame.lean.
-/
import Derived.Test.Qxb6602355aRows
import Derived.Test.Qxb6602355aEnd
import Derived.Test.Qxb6602355aFrame
import Derived.WalkKit
import Derived.ProofKit
import Derived.OpenShut
import Derived.ShutString
import Derived.ChangeOld
import Derived.Below
namespace Go.Proofs.Qxb6602355a.fnQuotedLenAgreesWithStringEnd
open Go.ChangeShapes Go.WideShapes Go.ChangeAt Go.RowKit
open Go.ChangeMaps (open_string shut_string)
set_option linter.unusedVariables false      -- a walk need not use every 'w<i>' (that an integer argument fits its kind)

theorem own : ownKnob Try.prog.godebug = none := by kernel_rfl

/-! ### STEP 1: THE WALK: the Go text returns true and writes nothing that was there. NOT by the shell's 'Grown': '[]byte(s)' lays a block that bears the run-time's mark (a frozen place behind its last cell), and 'Grown' asks that no place be frozen that was not: so 'Below', and the row's post limb by limb, as the shells over slices have it. -/
theorem zz_small (s : ByteArray) (h : s.size ≤ 1048576) (w : World) :
    Calls Try.prog 15 #[.string s] w fun e w' => e = .returned (.bool true) ∧ w = w' := by
  go_enter Try.func15, Try.ntmps15
  go_wp2
  go_ret
  exact ⟨rfl, rfl⟩
theorem zz_big (s : ByteArray) (h : ¬ s.size ≤ 1048576) (w0 : s.size ≤ maxLen) (w : World) :
    Calls Try.prog 15 #[.string s] w fun e w' => e = .returned (.bool false) ∧ w = w' := by
  unfold maxLen at w0
  go_enter Try.func15, Try.ntmps15
  go_wp2
  all_goals (go_ret; exact ⟨rfl, rfl⟩)
theorem fin_eq {a b : Nat} (h : a = b) : ((a : Int) == (b : Int)) = true := by rw [beq_iff_eq, h]
theorem gs_byte (s : ByteArray) (k : Nat) : 0 ≤ gs s k ∧ gs s k < 256 := by
  unfold gs
  have := UInt8.toNat_lt (s.data.toList.getD k 0)
  omega
/-- '[]byte(s)': a new row that holds s's bytes. -/
theorem to_bytes (s : ByteArray) (w : World) (hs : s.size ≤ 1048576) : ∃ cap W, (convert 9 25 (.string s)).run Try.prog w = .ok (.slice (some ⟨w.heap.size, 0, none⟩) s.size cap) W ∧
    s.size ≤ cap ∧ cap ≤ 9223372036854775807 ∧ RowAt W w.heap.size 0 s.size (gs s) ∧ Below w.heap.size w W ∧ w.heap.size < W.heap.size := by
  refine ⟨_, _, run_bytes_of_string (P := Try.prog) w 9 25 5 s Try.underlying9 Try.underlying25 Try.underlying5, grownCap_ge _ _ _ _, ?_, ?_, (Below.refl _ _).drew.alloc (Nat.le_refl _) _, ?_⟩
  · have := grownCap_le_maxLen w s.size 0 5 (by unfold maxLen; omega)
    unfold maxLen at this
    omega
  · intro j hj
    have hj' : j < s.data.size := hj
    rw [Nat.zero_add]
    refine (World.cell?_alloc_mark w.drew _ _ _ j).trans ?_
    rw [bytesRow_at s _ j hj', gs_at s j hj]
    rfl
  · show w.heap.size < (w.heap.push _).size
    simp

set_option maxHeartbeats 1000000 in
theorem walk (a0 : ByteArray) (w0 : a0.size ≤ maxLen) (w : World) :
    Calls Try.prog 5 #[.string a0] w fun e w' => e = .returned (.bool true) ∧ Below w.heap.size w w' := by
  by_cases hb : a0.size ≤ 1048576
  · by_cases h0 : a0.size = 0
    · have hz : ((a0.size : Int) == 0) = true := by rw [beq_iff_eq]; omega
      go_enter Try.func5, Try.ntmps5
      go_wp2_with (go_at_call 15; refine (zz_small _ hb _).mono ?_; rintro e w' ⟨rfl, rfl⟩)
      go_ret
      exact ⟨rfl, Below.refl _ _⟩
    have hz : ((a0.size : Int) == 0) = false := by rw [beq_eq_false_iff_ne]; omega
    have hp : 0 < a0.size := by omega
    have e0 := gs_at a0 0 hp
    by_cases hq : gs a0 0 = 34
    · have hc0 : (((a0[0]'hp).toNat : Int) != 34) = false := by rw [← e0, hq]; rfl
      have HQ := hid hq
      obtain ⟨cap, W, hconv, hcap1, hcap2, hrow, hbel, hsz⟩ := to_bytes a0 w hb
      have HE : Hid (Calls Try.prog 16 #[.slice (some ⟨w.heap.size, 0, none⟩) a0.size cap, .int .i64 0] W fun e w' => e = .returned (.int .i64 (Plain.send (gs a0) a0.size 0)) ∧ w' = W3 W (gs a0 0)) :=
        zzStringEnd_any w.heap.size 0 a0.size cap 0 (gs a0) W hb hcap1 hcap2 hsz hrow (gs_byte a0) hp
      have HF := hid (fun o => hbel.alloc (by omega) o : ∀ o, Below w.heap.size w (W.alloc o))
      have HL : Hid (Plain.multi (gs a0) a0.size 0 = false → Plain.send (gs a0) a0.size 0 = if 1 < Plain.qlen (gs a0) a0.size then Plain.qlen (gs a0) a0.size else a0.size) := Plain.send_qlen (gs a0) a0.size hq
      clear e0 hq hrow hbel hsz
      by_cases h3 : 3 ≤ a0.size
      · have h1 : 1 < a0.size := by omega
        have h2 : 2 < a0.size := by omega
        have E1 : Hid (gs a0 1 = ((a0[1]'h1).toNat : Int)) := gs_at a0 1 h1
        have E2 : Hid (gs a0 2 = ((a0[2]'h2).toNat : Int)) := gs_at a0 2 h2
        go_enter Try.func5, Try.ntmps5
        go_wp2_with (go_at_call 15; refine (zz_small _ hb _).mono ?_; rintro e w' ⟨rfl, rfl⟩)
        · go_ret
          exact ⟨rfl, Below.refl _ _⟩
        · have x2 : ¬ ((a0[2]'h2).toNat : Int) = 34 := beq_no (by assumption)
          have HS := hid (HL.out (Plain.multi_false (fun e => x2 (by rw [← E2.out, ← HQ.out]; exact e.2.2))))
          refine (zzQuotedLen_any a0 _ hb hp).mono ?_
          rintro e w2 ⟨rfl, rfl⟩
          by_cases hl : 1 < Plain.qlen (gs a0) a0.size
          · go_wp2_with fail
            refine HE.out.mono ?_
            rintro e w3 ⟨rfl, rfl⟩
            go_wp2
            go_ret
            exact ⟨ret_bool (fin_eq (by rw [HS.out, if_pos hl])), HF.out _⟩
          · go_wp2_with fail
            refine HE.out.mono ?_
            rintro e w3 ⟨rfl, rfl⟩
            go_wp2
            go_ret
            exact ⟨ret_bool (fin_eq (by rw [HS.out, if_neg hl])), HF.out _⟩
        · have x1 : ¬ ((a0[1]'h1).toNat : Int) = 34 := by assumption
          have HS := hid (HL.out (Plain.multi_false (fun e => x1 (by rw [← E1.out, ← HQ.out]; exact e.2.1))))
          refine (zzQuotedLen_any a0 _ hb hp).mono ?_
          rintro e w2 ⟨rfl, rfl⟩
          by_cases hl : 1 < Plain.qlen (gs a0) a0.size
          · go_wp2_with fail
            refine HE.out.mono ?_
            rintro e w3 ⟨rfl, rfl⟩
            go_wp2
            go_ret
            exact ⟨ret_bool (fin_eq (by rw [HS.out, if_pos hl])), HF.out _⟩
          · go_wp2_with fail
            refine HE.out.mono ?_
            rintro e w3 ⟨rfl, rfl⟩
            go_wp2
            go_ret
            exact ⟨ret_bool (fin_eq (by rw [HS.out, if_neg hl])), HF.out _⟩
      · go_enter Try.func5, Try.ntmps5
        go_wp2_with (go_at_call 15; refine (zz_small _ hb _).mono ?_; rintro e w' ⟨rfl, rfl⟩)
        · have HS := hid (HL.out (Plain.multi_false (by omega)))
          refine (zzQuotedLen_any a0 _ hb hp).mono ?_
          rintro e w2 ⟨rfl, rfl⟩
          by_cases hl : 1 < Plain.qlen (gs a0) a0.size
          · go_wp2_with fail
            refine HE.out.mono ?_
            rintro e w3 ⟨rfl, rfl⟩
            go_wp2
            go_ret
            exact ⟨ret_bool (fin_eq (by rw [HS.out, if_pos hl])), HF.out _⟩
          · go_wp2_with fail
            refine HE.out.mono ?_
            rintro e w3 ⟨rfl, rfl⟩
            go_wp2
            go_ret
            exact ⟨ret_bool (fin_eq (by rw [HS.out, if_neg hl])), HF.out _⟩
    · have hc0 : (((a0[0]'hp).toNat : Int) != 34) = true := by rw [bne_iff_ne]; omega
      clear e0 hq
      go_enter Try.func5, Try.ntmps5
      go_wp2_with (go_at_call 15; refine (zz_small _ hb _).mono ?_; rintro e w' ⟨rfl, rfl⟩)
      go_ret
      exact ⟨rfl, Below.refl _ _⟩
  · go_enter Try.func5, Try.ntmps5
    go_wp2_with (go_at_call 15; refine (zz_big _ hb w0 _).mono ?_; rintro e w' ⟨rfl, rfl⟩)
    go_ret
    exact ⟨rfl, Below.refl _ _⟩

/-! ### THE ROW's STEP: WRITTEN OUT: LEAVE IT -/
set_option maxRecDepth 100000 in
theorem lifted (os : Os) (started : os.Started) (H : Type) (enc : TypeId × Value → H) :
    ReturnsInHanded {} Try.checked os 5 .any (Rows.fnQuotedLenAgreesWithStringEndSpec.pre6 enc Try.prog Try.f5 Rows.fnQuotedLenAgreesWithStringEndRow.domain false) (Rows.fnQuotedLenAgreesWithStringEndSpec.post enc Try.prog Try.f5 false true false false) := by
  refine returnsInHanded_of_change (C := Try.checked) own started (by kernel_rfl) Try.func5
    (ChangeSpec.witness6 (enc := enc) (C := Try.checked) false ⟨#[], #[.string ByteArray.empty], []⟩ 8 (by kernel_rfl) (by kernel_rfl) (by kernel_rfl) (by kernel_rfl)) ?_
  intro W base args ds gs before hval0 hW hcnd _
  have hval : ∀ (j : Nat) t v, Try.f5.params[j]? = some t → args[j]? = some v → Value.okWide Try.prog W .any base t v := hval0
  have hW' := hW
  obtain ⟨p, q, hA0, hV, rfl, hfz, hnd⟩ := hW
  have hA : DataW.TrodAll enc Try.prog W 0 (fun _ => true) true Try.f5.params.toList args.toList ds p := hA0
  rw [Try.params5] at hA hval
  obtain ⟨v0, vs0, d0, ds0, p0, q0, hargs, rfl, rfl, h0, r0⟩ := trodAll_cons hA
  obtain ⟨rfl, rfl, rfl⟩ := trodAll_nil r0
  obtain rfl : args = #[v0] := by cases args; simp_all
  obtain ⟨rfl, rfl⟩ := trodVars_none hV
  obtain ⟨a0, rfl, rfl, rfl, w0⟩ := open_string Try.underlying9 (hval 0 9 v0 rfl rfl) h0
  clear hA0 hval0
  simp only [List.append_nil] at hW'
  refine (walk a0 w0 W).mono fun e W' ⟨he, bel⟩ => ?_
  subst he
  exact ⟨_, rfl, _, _, _, [], [], [], hW', trodAll_mk1 (shut_bool Try.underlying4 _), trodAll_mk1 (shut_string Try.underlying9 w0), rfl, bel.frame _, fun h => by cases h⟩

set_option maxRecDepth 100000 in
theorem closed : joinedFacts Try.pinned.checked.prog 5 Try.f5 Rows.fnQuotedLenAgreesWithStringEndSpec Rows.fnQuotedLenAgreesWithStringEndRow = true := by
  unfold joinedFacts
  rw [liftsFinal_ok, make_ok, mayEnter_ok]
  kernel_rfl

theorem over : Rows.fnQuotedLenAgreesWithStringEndRow.holds Try.pinned (OpenSpec.ofChange Rows.fnQuotedLenAgreesWithStringEndSpec) :=
  OpenClaim.holds_of_wide 5 Try.f5 rfl rfl rfl rfl rfl rfl rfl ⟨rfl, rfl, rfl, rfl, rfl⟩ rfl rfl rfl rfl rfl (by kernel_rfl) Try.func5 closed
    (of_decide_eq_true (by kernel_rfl)) (by unfold Func.isWrapper; first | (rw [if_pos (by decide +kernel)]; kernel_rfl) | (rw [if_neg (by decide +kernel)]; exact ⟨rfl, rfl⟩))
    (fun os started H enc _ => lifted os started H enc)

/-- ████ THE STATEMENT ████ -/
theorem proved : Rows.FnQuotedLenAgreesWithStringEndSaid :=
  over
end Go.Proofs.Qxb6602355a.fnQuotedLenAgreesWithStringEnd
