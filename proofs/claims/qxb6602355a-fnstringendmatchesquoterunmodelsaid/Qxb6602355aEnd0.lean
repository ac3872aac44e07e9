/-
  THE WALKS OF bytes.Equal AND bytes.HasPrefix AT A PREFIX OF THREE BYTES (seat b6602355a).
-/
import Derived.Test.Qxb6602355aClone
import Derived.Test.Qxb6602355aQuoted
import Derived.Lib.Bytes
namespace Go.Proofs.Qxb6602355a
open Go.ChangeShapes Go.WideShapes Go.ChangeAt Go.RowKit

set_option maxHeartbeats 400000 in
theorem equal3 (b1 o1 c b2 o2 d : Nat) (x0 x1 x2 y0 y1 y2 : Int) (w : World)
    (hx0 : w.cell? ⟨b1, o1, none⟩ = some (.int .u8 x0)) (hx1 : w.cell? ⟨b1, o1 + 1, none⟩ = some (.int .u8 x1)) (hx2 : w.cell? ⟨b1, o1 + 2, none⟩ = some (.int .u8 x2))
    (hy0 : w.cell? ⟨b2, o2, none⟩ = some (.int .u8 y0)) (hy1 : w.cell? ⟨b2, o2 + 1, none⟩ = some (.int .u8 y1)) (hy2 : w.cell? ⟨b2, o2 + 2, none⟩ = some (.int .u8 y2)) :
    Calls Try.prog 39 #[.slice (some ⟨b1, o1, none⟩) 3 c, .slice (some ⟨b2, o2, none⟩) 3 d] w fun e w' => e = .returned (.bool ((strOfNums [x0, x1, x2]).toList == (strOfNums [y0, y1, y2]).toList)) ∧ w' = w := by
  have g1 := run_convert_bytes_arg (P := Try.prog) w 25 5 Try.underlying25 Try.underlying5 b1 o1 3 c [x0, x1, x2] rfl (fun i hi => by
    match i, hi with
    | 0, _ => exact hx0
    | 1, _ => exact hx1
    | 2, _ => exact hx2) 9 Try.underlying9
  have g2 := run_convert_bytes_arg (P := Try.prog) w 25 5 Try.underlying25 Try.underlying5 b2 o2 3 d [y0, y1, y2] rfl (fun i hi => by
    match i, hi with
    | 0, _ => exact hy0
    | 1, _ => exact hy1
    | 2, _ => exact hy2) 9 Try.underlying9
  clear hx0 hx1 hx2 hy0 hy1 hy2
  go_enter Try.func39, Try.ntmps39
  go_wp2
  go_ret
  exact ⟨rfl, rfl⟩

theorem byte_eq {x y : Int} (hx : 0 ≤ x ∧ x < 256) (hy : 0 ≤ y ∧ y < 256) : (UInt8.ofNat x.toNat = UInt8.ofNat y.toNat) ↔ x = y := by
  constructor
  · intro h
    have h' := congrArg UInt8.toNat h
    simp only [UInt8.toNat_ofNat'] at h'
    omega
  · intro h; rw [h]
theorem same3 {x0 x1 x2 q : Int} (h0 : 0 ≤ x0 ∧ x0 < 256) (h1 : 0 ≤ x1 ∧ x1 < 256) (h2 : 0 ≤ x2 ∧ x2 < 256) (hq : 0 ≤ q ∧ q < 256) :
    ((strOfNums [x0, x1, x2]).toList == (strOfNums [q, q, q]).toList) = decide (x0 = q ∧ x1 = q ∧ x2 = q) := by
  rw [Bool.eq_iff_iff, beq_iff_eq, decide_eq_true_eq, Lib.strOfNums_toList, Lib.strOfNums_toList]
  simp only [Lib.bytesOf, List.map_cons, List.map_nil, List.cons.injEq, and_true, byte_eq h0 hq, byte_eq h1 hq, byte_eq h2 hq]

set_option maxHeartbeats 400000 in
/-- HasPrefix at a prefix of three bytes: too short a slice. -/
theorem prefix_short (b1 o1 n c b2 : Nat) (w : World) (hn : n < 3) :
    Calls Try.prog 34 #[.slice (some ⟨b1, o1, none⟩) n c, .slice (some ⟨b2, 0, none⟩) 3 3] w fun e w' => e = .returned (.bool false) ∧ w' = w := by
  have hd : decide ((3 : Int) ≤ (n : Int)) = false := decide_eq_false (by omega)
  go_enter Try.func34, Try.ntmps34
  go_wp2
  go_ret
  exact ⟨rfl, rfl⟩

set_option maxHeartbeats 400000 in
/-- HasPrefix at a prefix of three bytes q: three bytes or more. -/
theorem prefix_long (b1 o1 n c b2 : Nat) (x0 x1 x2 q : Int) (w : World) (hn : 3 ≤ n) (hnc : n ≤ c) (hc : c ≤ 9223372036854775807)
    (h0 : 0 ≤ x0 ∧ x0 < 256) (h1 : 0 ≤ x1 ∧ x1 < 256) (h2 : 0 ≤ x2 ∧ x2 < 256) (hq : 0 ≤ q ∧ q < 256)
    (hx0 : w.cell? ⟨b1, o1, none⟩ = some (.int .u8 x0)) (hx1 : w.cell? ⟨b1, o1 + 1, none⟩ = some (.int .u8 x1)) (hx2 : w.cell? ⟨b1, o1 + 2, none⟩ = some (.int .u8 x2))
    (hy0 : w.cell? ⟨b2, 0, none⟩ = some (.int .u8 q)) (hy1 : w.cell? ⟨b2, 1, none⟩ = some (.int .u8 q)) (hy2 : w.cell? ⟨b2, 2, none⟩ = some (.int .u8 q)) :
    Calls Try.prog 34 #[.slice (some ⟨b1, o1, none⟩) n c, .slice (some ⟨b2, 0, none⟩) 3 3] w fun e w' => e = .returned (.bool (decide (x0 = q ∧ x1 = q ∧ x2 = q))) ∧ w' = w := by
  have HE : Hid (((strOfNums [x0, x1, x2]).toList == (strOfNums [q, q, q]).toList) = decide (x0 = q ∧ x1 = q ∧ x2 = q)) := same3 h0 h1 h2 hq
  have E := hid (equal3 b1 o1 c b2 0 3 x0 x1 x2 q q q w hx0 hx1 hx2 hy0 hy1 hy2)
  clear hx0 hx1 hx2 hy0 hy1 hy2
  go_enter Try.func34, Try.ntmps34
  go_wp2_with fail
  refine E.out.mono ?_
  rintro e w' ⟨rfl, rfl⟩
  go_wp2
  go_ret
  exact ⟨ret_bool HE.out, rfl⟩
end Go.Proofs.Qxb6602355a
