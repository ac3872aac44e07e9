/-
  BYTES IN MEMORY; THE WALK OF zzb1Copy (seat b6602448a).
-/
import Derived.Test.Qxb6602448aRows
import Derived.WalkKit
import Derived.WalkSpells
import Derived.ProofKit
import Derived.Deep.OwnRows
namespace Go.Proofs.Qxb6602448a
open Go.ChangeShapes Go.WideShapes Go.ChangeAt Go.RowKit

/-- n bytes lie from ⟨b, off⟩ on: g 0, g 1, .. -/
def RowAt (w : World) (b off n : Nat) (g : Nat → Int) : Prop := ∀ j, j < n → w.cell? ⟨b, off + j, none⟩ = some (.int .u8 (g j))
theorem Try.info5 : (Try.prog.info? 5).map (fun i => (i.zero, i.size, i.bytes)) = some (some (.int .u8 0), 1, 1) := by kernel_rfl
theorem hid {p : Prop} (h : p) : Hid p := h
theorem block_lt {w : World} {p : Addr} {v : Value} (h : w.cell? p = some v) : p.block < w.heap.size := by
  rcases Nat.lt_or_ge p.block w.heap.size with h' | h'
  · exact h'
  · simp [World.cell?, Array.getElem?_eq_none h'] at h

set_option maxHeartbeats 400000 in
theorem clone_any (b off n c : Nat) (g : Nat → Int) (w : World) (hn : n ≤ 1048576) (hb : b < w.heap.size) (hr : RowAt w b off n g) :
    Calls Try.prog 7 #[.slice (some ⟨b, off, none⟩) n c] w fun e w' =>
      e = .returned (.slice (some ⟨w.heap.size, 0, none⟩) n n) ∧ RowAt w' w.heap.size 0 n g ∧ Below w.heap.size w w' ∧ w'.heap.size = w.heap.size + 1 := by
  have q22 : ∀ (w : World) (a : Option Addr) (n c n' c' : Nat), (binOp .eql 22 (.slice a n c) (.slice none n' c')).run Try.prog w = .ok (.bool a.isNone) w :=
    fun w a n c n' c' => Lib.run_eql_slice_nil w _ _ a n c n' c' Try.underlying22
  have hmk := fun w => run_make_row' (P := Try.prog) 22 5 (.int .u8 0) 1 Try.underlying22 Try.info5 rfl .i64 .i64 n (by omega) (by omega) w
  go_enter Try.func7, Try.ntmps7
  go_wp2
  clear hmk
  go_loopw [4] (fun i wr => ∃ k : Nat, k ≤ n ∧ i = .int .i64 k ∧ wr.rowIs w.heap.size 5 n (fun j => if j < k then .int .u8 (g j) else .int .u8 0) ∧ Below w.heap.size w wr ∧ wr.heap.size = w.heap.size + 1)
    (fun i _ => n - (intOf i).toNat)
  case atStart => exact ⟨0, Nat.zero_le _, rfl, (World.rowIs_made w (.int .u8 0) n 5).congr (fun i _ => by simp), (Below.refl _ _).alloc (Nat.le_refl _) _, by simp⟩
  case round =>
    obtain ⟨k, hk, rfl, hrow, hbel, hsz⟩ := hrel
    by_cases hlt : k < n
    · have hc1 : wr.cell? ⟨b, off + k, none⟩ = some (.int .u8 (g k)) := (hbel.cell (p := ⟨b, off + k, none⟩) hb).trans (hr k hlt)
      have hc2 : wr.cell? ⟨w.heap.size, k, none⟩ = some (.int .u8 0) := by rw [hrow.cell hlt, if_neg (by omega)]
      have hf2 := hrow.frozen k
      have HR := hid hrow
      have HB := hid hbel
      have HZ := hid hsz
      clear hrow hbel hsz hr
      go_wp2
      go_roundw
      case rel =>
        refine ⟨k + 1, by omega, by go_num, ((HR.out.set k (.int .u8 (g k))).congr fun j _ => ?_), HB.out.setCell (by simp) _, ?_⟩
        · by_cases e : j = k
          · subst e; rw [if_pos rfl, if_pos (by omega)]
          · rw [if_neg e]
            by_cases e2 : j < k
            · rw [if_pos e2, if_pos (by omega)]
            · rw [if_neg e2, if_neg (by omega)]
        · simp [World.setCell, HZ.out]
      case measure => simp [intOf]; omega
    · have HR := hid hrow
      have HB := hid hbel
      have HZ := hid hsz
      clear hrow hbel hsz hr
      go_wp2
      go_ret
      refine ⟨rfl, fun j hj => ?_, HB.out, HZ.out⟩
      rw [Nat.zero_add, HR.out.cell hj, if_pos (by omega)]

theorem ret_int {k : IntKind} {a b : Int} (h : a = b) : Ending.returned (.int k a) = .returned (.int k b) := by rw [h]
theorem ret_bool {a b : Bool} (h : a = b) : Ending.returned (.bool a) = .returned (.bool b) := by rw [h]
theorem beq_yes {a b : Int} (h : (a == b) = true) : a = b := by simpa using h
theorem beq_no {a b : Int} (h : (a == b) = false) : ¬ a = b := by simpa using h

/-- nil stays nil. -/
theorem clone_nil (w : World) : Calls Try.prog 7 #[.slice none 0 0] w fun e w' => e = .returned (.slice none 0 0) ∧ w' = w := by
  have q22 : ∀ (w : World) (a : Option Addr) (n c n' c' : Nat), (binOp .eql 22 (.slice a n c) (.slice none n' c')).run Try.prog w = .ok (.bool a.isNone) w :=
    fun w a n c n' c' => Lib.run_eql_slice_nil w _ _ a n c n' c' Try.underlying22
  go_enter Try.func7, Try.ntmps7
  go_wp2
  go_ret
  exact ⟨rfl, rfl⟩

/-- A slice of no byte that is not nil, whatever its address. -/
theorem clone_empty (x : Addr) (c : Nat) (w : World) :
    Calls Try.prog 7 #[.slice (some x) 0 c] w fun e w' => e = .returned (.slice (some ⟨w.heap.size, 0, none⟩) 0 0) ∧ Below w.heap.size w w' := by
  have q22 : ∀ (w : World) (a : Option Addr) (n c n' c' : Nat), (binOp .eql 22 (.slice a n c) (.slice none n' c')).run Try.prog w = .ok (.bool a.isNone) w :=
    fun w a n c n' c' => Lib.run_eql_slice_nil w _ _ a n c n' c' Try.underlying22
  have hmk : ∀ w : World, (Instr.makeSlice 22 (.int .i64 0) (.int .i64 0)).run Try.prog w = .ok (.slice (some ⟨w.heap.size, 0, none⟩) 0 0) (w.alloc (.cells (madeCells #[.int .u8 0] 0) 5)) :=
    fun w => run_make_row' (P := Try.prog) 22 5 (.int .u8 0) 1 Try.underlying22 Try.info5 rfl .i64 .i64 0 (by omega) (by omega) w
  go_enter Try.func7, Try.ntmps7
  go_wp2
  go_loop [4] (fun t => t = .int .i64 0) (fun _ => 0)
  case atStart => rfl
  case round =>
    subst hrel
    go_wp2
    go_ret
    exact ⟨rfl, (Below.refl _ _).alloc (Nat.le_refl _) _⟩
end Go.Proofs.Qxb6602448a
