/-
  THE PROOF OF 'Rows.FnScanNumberMatchesAutomatonSaid'. The frame is the given shell's (written by program); the walk is mine; the closed facts on the program's head are taken from Qxb6602448aFrame.lean.
-/
import Derived.Test.Qxb6602448aRows
import Derived.Test.Qxb6602448aAuto
import Derived.Test.Qxb6602448aScan2
import Derived.Test.Qxb6602448aFrame
import Derived.WalkKit
import Derived.ProofKit
import Derived.OpenShut
import Derived.ShutString
import Derived.ChangeOld
import Derived.Below
namespace Go.Proofs.Qxb6602448a.fnScanNumberMatchesAutomaton
open Go.ChangeShapes Go.WideShapes Go.ChangeAt Go.RowKit
open Go.ChangeMaps (open_string shut_string)
set_option linter.unusedVariables false

theorem own : ownKnob Try.prog.godebug = none := by kernel_rfl
theorem laidOut : laidOutB Try.prog = true := by kernel_rfl

/-- WHAT THE WALK IS TOLD OF A SLICE OF INTEGERS THAT CAME IN: it is nil; or it leads to a row of 'cap' cells, the numbers 'zs' (the first 'len' are its elements, the rest its spare room), each fitting its kind. -/
def IsRow (k : IntKind) (w : World) (a : Option Addr) (len cap : Nat) (zs : List Int) : Prop :=
  (a = none ∧ len = 0 ∧ cap = 0 ∧ zs = []) ∨
  ∃ x, a = some x ∧ len ≤ cap ∧ cap ≤ maxLen ∧ zs.length = cap ∧ (∀ i, i < zs.length → w.cell? (x.add i) = some (.int k (zs.getD i 0))) ∧ ∀ n ∈ zs, (Lit.int k n).wf = true

/-! ### STEP 1: THE WALK: the Go text returns true, AND WRITES NOTHING THAT WAS THERE: 'Below w.heap.size w w'' (Derived/Below.lean: '.refl', '.alloc', '.drew', '.setCell' at a new block, '.trans'). Open each 'IsRow' by 'rcases' AHEAD of 'go_enter'; part every test ahead of the walk. -/
theorem opened {w : World} {a : Option Addr} {len cap : Nat} {zs : List Int} (h : IsRow .u8 w a len cap zs) (hl : 0 < len) :
    ∃ b off, a = some ⟨b, off, none⟩ ∧ b < w.heap.size ∧ len ≤ cap ∧ cap ≤ 9223372036854775807 ∧ RowAt w b off len (fun j => zs.getD j 0) ∧ ∀ j, 0 ≤ zs.getD j 0 ∧ zs.getD j 0 < 256 := by
  rcases h with ⟨_, h0, _, _⟩ | ⟨x, rfl, hlc, hcm, hz, hc, hwf⟩
  · omega
  · obtain ⟨b, off, spot⟩ := x
    have hspot : spot = none := by simpa [Addr.add] using World.cell?_spot (hc 0 (by omega))
    subst hspot
    have hc' : ∀ j, j < zs.length → w.cell? ⟨b, off + j, none⟩ = some (.int .u8 (zs.getD j 0)) := fun j hj => by rw [← add_plain]; exact hc j hj
    refine ⟨b, off, rfl, block_lt (hc' 0 (by omega)), hlc, by unfold maxLen at hcm; omega, fun j hj => hc' j (by omega), fun j => ?_⟩
    have hb := range_u8 hwf j
    rw [List.getD_eq_getElem?_getD]
    omega
/-- No byte: the copy has none, wherever it lies. -/
theorem cloned0 {w : World} {a : Option Addr} {cap : Nat} {zs : List Int} (h : IsRow .u8 w a 0 cap zs) :
    Calls Try.prog 7 #[.slice a 0 cap] w fun e w' => ∃ a', e = .returned (.slice a' 0 0) ∧ (a' = none ∨ a' = some ⟨w.heap.size, 0, none⟩) ∧ Below w.heap.size w w' := by
  rcases h with ⟨rfl, _, rfl, _⟩ | ⟨x, rfl, _⟩
  · refine (clone_nil w).mono fun e w' ⟨he, hw⟩ => ⟨none, he, .inl rfl, ?_⟩
    rw [hw]; exact Below.refl _ _
  · exact (clone_empty x cap w).mono fun e w' ⟨he, hw⟩ => ⟨_, he, .inr rfl, hw⟩
theorem zz_small (a : Option Addr) (n c : Nat) (i : Int) (h : n ≤ 1048576) (w : World) :
    Calls Try.prog 6 #[.slice a n c, .int .i64 i] w fun e w' => e = .returned (.bool true) ∧ w = w' := by
  go_enter Try.func6, Try.ntmps6
  go_wp2
  go_ret
  exact ⟨rfl, rfl⟩
theorem zz_big (a : Option Addr) (n c : Nat) (i : Int) (h : ¬ n ≤ 1048576) (w : World) :
    Calls Try.prog 6 #[.slice a n c, .int .i64 i] w fun e w' => e = .returned (.bool false) ∧ w = w' := by
  have h' : 1048576 < n := by omega
  go_enter Try.func6, Try.ntmps6
  go_wp2
  all_goals (go_ret; exact ⟨rfl, rfl⟩)

set_option maxHeartbeats 1000000 in
theorem walk (a0 : Option Addr) (len0 cap0 : Nat) (z0 : List Int) (a1 : Int) (w : World) (w0 : IsRow .u8 w a0 len0 cap0 z0) (w1 : (Lit.int .i64 a1).wf = true) :
    Calls Try.prog 3 #[.slice a0 len0 cap0, .int .i64 a1] w fun e w' => e = .returned (.bool true) ∧ Below w.heap.size w w' := by
  by_cases hb : len0 ≤ 1048576
  · by_cases hi : 0 ≤ a1
    · by_cases h0 : len0 = 0
      · subst h0
        have hi' : ((0 : Nat) : Int) ≤ a1 := by simpa using hi
        have HI := hid hi'
        have HCl := hid (cloned0 w0)
        clear w0 hi'
        go_enter Try.func3, Try.ntmps3
        go_wp2_with (go_at_call 6; refine (zz_small _ _ _ _ hb _).mono ?_; rintro e w' ⟨rfl, rfl⟩)
        refine HCl.out.mono ?_
        rintro e w1 ⟨a', rfl, ha, hbel⟩
        have HB := hid hbel
        clear hbel HCl ha
        go_wp2_with (first | (go_at_call 8; refine (zzScan_out _ _ _ _ _ HI.out).mono ?_; rintro e w' ⟨rfl, rfl⟩) | (go_at_call 9; refine (auto_out _ _ _ _ _ HI.out).mono ?_; rintro e w' ⟨rfl, rfl⟩))
        go_ret
        exact ⟨rfl, HB.out⟩
      · obtain ⟨b, off, rfl, hbl, hlc, hcm, hrow, hg⟩ := opened w0 (by omega)
        generalize hgd : (fun j => z0.getD j 0) = g at hrow
        clear hg hgd w0
        have HCl := hid (clone_any b off len0 cap0 g w hb hbl hrow)
        clear hrow
        by_cases hlt : a1 < (len0 : Int)
        · obtain ⟨i, rfl⟩ := Int.eq_ofNat_of_zero_le hi
          have hin : i ≤ len0 := by omega
          clear w1 hi
          have LAW := hid (Plain.run0 g len0 i)
          go_enter Try.func3, Try.ntmps3
          go_wp2_with (go_at_call 6; refine (zz_small _ _ _ _ hb _).mono ?_; rintro e w' ⟨rfl, rfl⟩)
          refine HCl.out.mono ?_
          rintro e w1 ⟨rfl, hrow, hbel, hsz⟩
          have HB := hid hbel
          have HR := hid hrow
          clear hrow hbel hsz HCl
          go_wp2_with fail
          refine (zzScan_any w.heap.size 0 len0 len0 i _ g _ hb HR.out rfl).mono ?_
          rintro e w2 ⟨rfl, rfl⟩
          go_wp2_with fail
          refine (auto_any w.heap.size 0 len0 len0 i g _ hb HR.out hin).mono ?_
          rintro e w3 ⟨rfl, rfl⟩
          rw [LAW.out]
          go_wp2
          go_ret
          exact ⟨ret_bool (by first | rfl | simp), HB.out⟩
        · have hle : (len0 : Int) ≤ a1 := by omega
          clear hlt
          go_enter Try.func3, Try.ntmps3
          go_wp2_with (go_at_call 6; refine (zz_small _ _ _ _ hb _).mono ?_; rintro e w' ⟨rfl, rfl⟩)
          refine HCl.out.mono ?_
          rintro e w2 ⟨rfl, hrow, hbel, hsz⟩
          have HB := hid hbel
          clear hrow hbel hsz HCl
          go_wp2_with (first | (go_at_call 8; refine (zzScan_out _ _ _ _ _ hle).mono ?_; rintro e w' ⟨rfl, rfl⟩) | (go_at_call 9; refine (auto_out _ _ _ _ _ hle).mono ?_; rintro e w' ⟨rfl, rfl⟩))
          go_ret
          exact ⟨rfl, HB.out⟩
    · go_enter Try.func3, Try.ntmps3
      go_wp2_with (go_at_call 6; refine (zz_small _ _ _ _ hb _).mono ?_; rintro e w' ⟨rfl, rfl⟩)
      go_ret
      exact ⟨rfl, Below.refl _ _⟩
  · go_enter Try.func3, Try.ntmps3
    go_wp2_with (go_at_call 6; refine (zz_big _ _ _ _ hb _).mono ?_; rintro e w' ⟨rfl, rfl⟩)
    go_ret
    exact ⟨rfl, Below.refl _ _⟩

/-! ### THE ROW's STEP: WRITTEN OUT: LEAVE IT -/
set_option maxRecDepth 100000 in
theorem lifted (os : Os) (started : os.Started) (H : Type) (enc : TypeId × Value → H) :
    ReturnsInHanded {} Try.checked os 3 .any (Rows.fnScanNumberMatchesAutomatonSpec.pre6 enc Try.prog Try.f3 Rows.fnScanNumberMatchesAutomatonRow.domain false) (Rows.fnScanNumberMatchesAutomatonSpec.post enc Try.prog Try.f3 false true false false) := by
  refine returnsInHanded_of_change (C := Try.checked) own started (by kernel_rfl) Try.func3
    (ChangeSpec.witness6 (enc := enc) (C := Try.checked) false ⟨#[], #[.slice none 0 0, .int .i64 0], []⟩ 8 (by kernel_rfl) (by kernel_rfl) (by kernel_rfl) (by kernel_rfl)) ?_
  intro W base args ds gs before hval0 hW hcnd _
  have hval : ∀ (j : Nat) t v, Try.f3.params[j]? = some t → args[j]? = some v → Value.okWide Try.prog W .any base t v := hval0
  have hW' := hW
  obtain ⟨p, q, hA0, hV, rfl, hfz, hnd⟩ := hW
  have hA : DataW.TrodAll enc Try.prog W 0 (fun _ => true) true Try.f3.params.toList args.toList ds p := hA0
  rw [Try.params3] at hA hval
  obtain ⟨v0, vs0, d0, ds0, p0, q0, hargs, rfl, rfl, h0, r0⟩ := trodAll_cons hA
  obtain ⟨v1, vs1, d1, ds1, p1, q1, rfl, rfl, rfl, h1, r1⟩ := trodAll_cons r0
  obtain ⟨rfl, rfl, rfl⟩ := trodAll_nil r1
  obtain rfl : args = #[v0, v1] := by cases args; simp_all
  obtain ⟨rfl, rfl⟩ := trodVars_none hV
  obtain ⟨a0, len0, cap0, rfl⟩ := okWide_slice Try.underlying22 (hval 0 22 v0 rfl rfl)
  have k0 := h0
  have lt0 : ∀ x ∈ p0, x.block < W.heap.size := by obtain ⟨m, hm⟩ := k0; exact DataW.trod_lt m _ _ _ hm
  obtain ⟨z0, w0⟩ : ∃ zs, IsRow .u8 W a0 len0 cap0 zs := by
    obtain ⟨fuel, hf⟩ := h0
    rcases open_ints Try.underlying22 Try.underlying5 (by kernel_rfl) hf with ⟨hcs, _⟩ | ⟨x, l, c, zs, hcs, _, hl, hm, hz, _, hcell, hwz⟩
    · simp [Value.cells] at hcs
      obtain ⟨rfl, rfl, rfl⟩ := hcs
      exact ⟨[], .inl ⟨rfl, rfl, rfl, rfl⟩⟩
    · simp [Value.cells] at hcs
      obtain ⟨rfl, rfl, rfl⟩ := hcs
      exact ⟨zs, .inr ⟨_, rfl, hl, hm, by simpa using hz, hcell, hwz⟩⟩
  obtain ⟨a1, rfl, rfl, rfl, w1⟩ := open_int Try.underlying3 (hval 1 3 v1 rfl rfl) h1
  clear hA0 hval0
  refine (walk a0 len0 cap0 z0 a1 W w0 w1).mono fun e W' ⟨he, bel⟩ => ?_
  subst he
  exact ⟨_, rfl, _, _, _, [], _, [], hW', trodAll_mk1 (shut_bool Try.underlying4 _), (trodAll_cons_mk (Below.trod laidOut (by kernel_rfl) (of_decide_eq_true (by kernel_rfl)) k0 bel lt0) (trodAll_cons_mk (shut_int Try.underlying3 w1) trodAll_mk0)), rfl, bel.frame _, fun h => by cases h⟩

set_option maxRecDepth 100000 in
theorem closed : joinedFacts Try.pinned.checked.prog 3 Try.f3 Rows.fnScanNumberMatchesAutomatonSpec Rows.fnScanNumberMatchesAutomatonRow = true := by
  unfold joinedFacts
  rw [liftsFinal_ok, make_ok, mayEnter_ok]
  kernel_rfl

theorem over : Rows.fnScanNumberMatchesAutomatonRow.holds Try.pinned (OpenSpec.ofChange Rows.fnScanNumberMatchesAutomatonSpec) :=
  OpenClaim.holds_of_wide 3 Try.f3 rfl rfl rfl rfl rfl rfl rfl ⟨rfl, rfl, rfl, rfl, rfl⟩ rfl rfl rfl rfl rfl (by kernel_rfl) Try.func3 closed
    (of_decide_eq_true (by kernel_rfl)) (by unfold Func.isWrapper; first | (rw [if_pos (by decide +kernel)]; kernel_rfl) | (rw [if_neg (by decide +kernel)]; exact ⟨rfl, rfl⟩))
    (fun os started H enc _ => lifted os started H enc)

/-- ████ THE STATEMENT ████ -/
theorem proved : Rows.FnScanNumberMatchesAutomatonSaid := over
end Go.Proofs.Qxb6602448a.fnScanNumberMatchesAutomaton
