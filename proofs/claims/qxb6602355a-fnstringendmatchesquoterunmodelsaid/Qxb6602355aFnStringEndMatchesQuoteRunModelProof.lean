/-
  THE PROOF OF 'Rows.FnStringEndMatchesQuoteRunModelSaid'. The frame is the given shell's (written by program); the walk is mine; the closed facts on the program's head are taken from Qxb6602355aFrame.lean.
-/
import Derived.Test.Qxb6602355aRows
import Derived.Test.Qxb6602355aModel3
import Derived.Test.Qxb6602355aFrame
import Derived.WalkKit
import Derived.ProofKit
import Derived.OpenShut
import Derived.ShutString
import Derived.ChangeOld
import Derived.Below
namespace Go.Proofs.Qxb6602355a.fnStringEndMatchesQuoteRunModel
open Go.ChangeShapes Go.WideShapes Go.ChangeAt Go.RowKit
open Go.ChangeMaps (open_string shut_string)
set_option linter.unusedVariables false

theorem own : ownKnob Try.prog.godebug = none := by kernel_rfl
theorem laidOut : laidOutB Try.prog = true := by kernel_rfl

/-- WHAT THE WALK IS TOLD OF A SLICE OF INTEGERS THAT CAME IN: it is nil; or it leads to a row of 'cap' cells, the numbers 'zs' (the first 'len' are its elements, the rest its spare room), each fitting its kind. -/
def IsRow (k : IntKind) (w : World) (a : Option Addr) (len cap : Nat) (zs : List Int) : Prop :=
  (a = none ∧ len = 0 ∧ cap = 0 ∧ zs = []) ∨
  ∃ x, a = some x ∧ len ≤ cap ∧ cap ≤ maxLen ∧ zs.length = cap ∧ (∀ i, i < zs.length → w.cell? (x.add i) = some (.int k (zs.getD i 0))) ∧ ∀ n ∈ zs, (Lit.int k n).wf = true

/-! ### STEP 1: THE WALK: the Go text returns true, AND WRITES NOTHING THAT WAS THERE: 'Below w.heap.size w w'' (Derived/Below.lean: '.refl', '.alloc', '.drew', '.setCell' at a new block, '.trans'). Open each 'IsRow' by 'rcases' AHEAD of 'go_enter'; part every test ahead of the walk. -/
theorem opened {w : World} {a : Option Addr} {len cap : Nat} {zs : List Int} (h : IsRow .u8 w a len cap zs) (hl : 0 < len) :
    ∃ b off, a = some ⟨b, off, none⟩ ∧ b < w.heap.size ∧ len ≤ cap ∧ cap ≤ 9223372036854775807 ∧ RowAt w b off len (fun j => zs.getD j 0) ∧ ∀ j, 0 ≤ zs.getD j 0 ∧ zs.getD j 0 < 256 := by
  rcases h with ⟨_, h0, _, _⟩ | ⟨x, rfl, hlc, hcm, hz, hc, hwf⟩
  · omega
  · obtain ⟨b, off, spot⟩ := x
    have hspot : spot = none := by simpa [Addr.add] using World.cell?_spot (hc 0 (by omega))
    subst hspot
    have hc' : ∀ j, j < zs.length → w.cell? ⟨b, off + j, none⟩ = some (.int .u8 (zs.getD j 0)) := fun j hj => by rw [← add_plain]; exact hc j hj
    refine ⟨b, off, rfl, block_lt (hc' 0 (by omega)), hlc, by unfold maxLen at hcm; omega, fun j hj => hc' j (by omega), fun j => ?_⟩
    have hb := range_u8 hwf j
    rw [List.getD_eq_getElem?_getD]
    omega
theorem zz_small (a : Option Addr) (n c : Nat) (i : Int) (h : n ≤ 1048576) (w : World) :
    Calls Try.prog 17 #[.slice a n c, .int .i64 i] w fun e w' => e = .returned (.bool true) ∧ w' = w := by
  go_enter Try.func17, Try.ntmps17
  go_wp2
  go_ret
  exact ⟨rfl, rfl⟩
theorem zz_big (a : Option Addr) (n c : Nat) (i : Int) (h : ¬ n ≤ 1048576) (w : World) :
    Calls Try.prog 17 #[.slice a n c, .int .i64 i] w fun e w' => e = .returned (.bool false) ∧ w' = w := by
  have h' : 1048576 < n := by omega
  go_enter Try.func17, Try.ntmps17
  go_wp2
  all_goals (go_ret; exact ⟨rfl, rfl⟩)
theorem fin_eq {a b : Nat} (h : a = b) : ((a : Int) == (b : Int)) = true := by rw [beq_iff_eq, h]

set_option maxHeartbeats 1000000 in
theorem walk (a0 : Option Addr) (len0 cap0 : Nat) (z0 : List Int) (a1 : Int) (w : World) (w0 : IsRow .u8 w a0 len0 cap0 z0) (w1 : (Lit.int .i64 a1).wf = true) :
    Calls Try.prog 6 #[.slice a0 len0 cap0, .int .i64 a1] w fun e w' => e = .returned (.bool true) ∧ Below w.heap.size w w' := by
  by_cases hb : len0 ≤ 1048576
  · by_cases hi : 0 ≤ a1 ∧ a1 < (len0 : Int)
    · obtain ⟨i, rfl⟩ := Int.eq_ofNat_of_zero_le hi.1
      have hin : i < len0 := by omega
      clear hi w1
      obtain ⟨b, off, rfl, hbl, hlc, hcm, hrow, hg⟩ := opened w0 (by omega)
      generalize hgd : (fun j => z0.getD j 0) = g at hrow
      have hg' : ∀ j, 0 ≤ g j ∧ g j < 256 := fun j => by rw [← hgd]; exact hg j
      clear hg hgd w0
      have hci := hrow i hin
      have HCl := hid (clone_any b off len0 cap0 g w hb hbl hrow)
      clear hrow
      by_cases hq : g i = 34 ∨ g i = 39
      · have hq1 : (g i != 34) = true → (g i != 39) = false := by
          intro h
          rw [bne_iff_ne] at h
          rcases hq with e | e
          · exact absurd e h
          · rw [e]; rfl
        have h92 : ¬ g i = 92 := by omega
        have LAW := hid (Plain.smodel_eq g len0 i h92)
        clear h92 hq
        have run : ∀ (hx : (g i != 34) = false ∨ ((g i != 34) = true ∧ (g i != 39) = false)), Calls Try.prog 6 #[.slice (some ⟨b, off, none⟩) len0 cap0, .int .i64 i] w fun e w' => e = .returned (.bool true) ∧ Below w.heap.size w w' := by
          intro hx
          rcases hx with hx | ⟨hx, hx'⟩
          all_goals
            clear hq1
            go_enter Try.func6, Try.ntmps6
            go_wp2_with (go_at_call 17; refine (zz_small _ _ _ _ hb _).mono ?_; rintro e w' ⟨rfl, rfl⟩)
            refine HCl.out.mono ?_
            rintro e w1 ⟨rfl, hrow, hbel, hsz⟩
            have hlt1 : w'.heap.size < w1.heap.size := by omega
            have HE := hid (zzStringEnd_any w'.heap.size 0 len0 len0 i g w1 hb (Nat.le_refl _) (by omega) hlt1 hrow hg' hin)
            have HMo := hid (model_any w'.heap.size 0 len0 len0 i g (W3 w1 (g i)) hb (hrow.w3 hlt1 _) hin)
            have HF := hid (hbel.alloc (by omega) (.cells #[.int .u8 (g i), .int .u8 (g i), .int .u8 (g i)] 5))
            clear hrow hbel hsz HCl
            go_wp2_with fail
            refine HE.out.mono ?_
            rintro e w2 ⟨rfl, rfl⟩
            go_wp2_with fail
            refine HMo.out.mono ?_
            rintro e w2 ⟨rfl, rfl⟩
            go_wp2
            go_ret
            exact ⟨ret_bool (fin_eq LAW.out.symm), HF.out⟩
        cases hx : (g i != 34) with
        | false => exact run (.inl hx)
        | true => exact run (.inr ⟨hx, hq1 hx⟩)
      · have hx : (g i != 34) = true := by rw [bne_iff_ne]; omega
        have hx' : (g i != 39) = true := by rw [bne_iff_ne]; omega
        clear hq HCl hg'
        go_enter Try.func6, Try.ntmps6
        go_wp2_with (go_at_call 17; refine (zz_small _ _ _ _ hb _).mono ?_; rintro e w' ⟨rfl, rfl⟩)
        go_ret
        exact ⟨rfl, Below.refl _ _⟩
    · have hi' : a1 < 0 ∨ (len0 : Int) ≤ a1 := by omega
      clear hi
      go_enter Try.func6, Try.ntmps6
      go_wp2_with (go_at_call 17; refine (zz_small _ _ _ _ hb _).mono ?_; rintro e w' ⟨rfl, rfl⟩)
      all_goals (go_ret; exact ⟨rfl, Below.refl _ _⟩)
  · go_enter Try.func6, Try.ntmps6
    go_wp2_with (go_at_call 17; refine (zz_big _ _ _ _ hb _).mono ?_; rintro e w' ⟨rfl, rfl⟩)
    go_ret
    exact ⟨rfl, Below.refl _ _⟩

/-! ### THE ROW's STEP: WRITTEN OUT: LEAVE IT -/
set_option maxRecDepth 100000 in
theorem lifted (os : Os) (started : os.Started) (H : Type) (enc : TypeId × Value → H) :
    ReturnsInHanded {} Try.checked os 6 .any (Rows.fnStringEndMatchesQuoteRunModelSpec.pre6 enc Try.prog Try.f6 Rows.fnStringEndMatchesQuoteRunModelRow.domain false) (Rows.fnStringEndMatchesQuoteRunModelSpec.post enc Try.prog Try.f6 false true false false) := by
  refine returnsInHanded_of_change (C := Try.checked) own started (by kernel_rfl) Try.func6
    (ChangeSpec.witness6 (enc := enc) (C := Try.checked) false ⟨#[], #[.slice none 0 0, .int .i64 0], []⟩ 8 (by kernel_rfl) (by kernel_rfl) (by kernel_rfl) (by kernel_rfl)) ?_
  intro W base args ds gs before hval0 hW hcnd _
  have hval : ∀ (j : Nat) t v, Try.f6.params[j]? = some t → args[j]? = some v → Value.okWide Try.prog W .any base t v := hval0
  have hW' := hW
  obtain ⟨p, q, hA0, hV, rfl, hfz, hnd⟩ := hW
  have hA : DataW.TrodAll enc Try.prog W 0 (fun _ => true) true Try.f6.params.toList args.toList ds p := hA0
  rw [Try.params6] at hA hval
  obtain ⟨v0, vs0, d0, ds0, p0, q0, hargs, rfl, rfl, h0, r0⟩ := trodAll_cons hA
  obtain ⟨v1, vs1, d1, ds1, p1, q1, rfl, rfl, rfl, h1, r1⟩ := trodAll_cons r0
  obtain ⟨rfl, rfl, rfl⟩ := trodAll_nil r1
  obtain rfl : args = #[v0, v1] := by cases args; simp_all
  obtain ⟨rfl, rfl⟩ := trodVars_none hV
  obtain ⟨a0, len0, cap0, rfl⟩ := okWide_slice Try.underlying25 (hval 0 25 v0 rfl rfl)
  have k0 := h0
  have lt0 : ∀ x ∈ p0, x.block < W.heap.size := by obtain ⟨m, hm⟩ := k0; exact DataW.trod_lt m _ _ _ hm
  obtain ⟨z0, w0⟩ : ∃ zs, IsRow .u8 W a0 len0 cap0 zs := by
    obtain ⟨fuel, hf⟩ := h0
    rcases open_ints Try.underlying25 Try.underlying5 (by kernel_rfl) hf with ⟨hcs, _⟩ | ⟨x, l, c, zs, hcs, _, hl, hm, hz, _, hcell, hwz⟩
    · simp [Value.cells] at hcs
      obtain ⟨rfl, rfl, rfl⟩ := hcs
      exact ⟨[], .inl ⟨rfl, rfl, rfl, rfl⟩⟩
    · simp [Value.cells] at hcs
      obtain ⟨rfl, rfl, rfl⟩ := hcs
      exact ⟨zs, .inr ⟨_, rfl, hl, hm, by simpa using hz, hcell, hwz⟩⟩
  obtain ⟨a1, rfl, rfl, rfl, w1⟩ := open_int Try.underlying3 (hval 1 3 v1 rfl rfl) h1
  clear hA0 hval0
  refine (walk a0 len0 cap0 z0 a1 W w0 w1).mono fun e W' ⟨he, bel⟩ => ?_
  subst he
  exact ⟨_, rfl, _, _, _, [], _, [], hW', trodAll_mk1 (shut_bool Try.underlying4 _), (trodAll_cons_mk (Below.trod laidOut (by kernel_rfl) (of_decide_eq_true (by kernel_rfl)) k0 bel lt0) (trodAll_cons_mk (shut_int Try.underlying3 w1) trodAll_mk0)), rfl, bel.frame _, fun h => by cases h⟩

set_option maxRecDepth 100000 in
theorem closed : joinedFacts Try.pinned.checked.prog 6 Try.f6 Rows.fnStringEndMatchesQuoteRunModelSpec Rows.fnStringEndMatchesQuoteRunModelRow = true := by
  unfold joinedFacts
  rw [liftsFinal_ok, make_ok, mayEnter_ok]
  kernel_rfl

theorem over : Rows.fnStringEndMatchesQuoteRunModelRow.holds Try.pinned (OpenSpec.ofChange Rows.fnStringEndMatchesQuoteRunModelSpec) :=
  OpenClaim.holds_of_wide 6 Try.f6 rfl rfl rfl rfl rfl rfl rfl ⟨rfl, rfl, rfl, rfl, rfl⟩ rfl rfl rfl rfl rfl (by kernel_rfl) Try.func6 closed
    (of_decide_eq_true (by kernel_rfl)) (by unfold Func.isWrapper; first | (rw [if_pos (by decide +kernel)]; kernel_rfl) | (rw [if_neg (by decide +kernel)]; exact ⟨rfl, rfl⟩))
    (fun os started H enc _ => lifted os started H enc)

/-- ████ THE STATEMENT ████ -/
theorem proved : Rows.FnStringEndMatchesQuoteRunModelSaid := over
end Go.Proofs.Qxb6602355a.fnStringEndMatchesQuoteRunModel
