/-
  THE WALK OF stringEnd (seat b6602355a).
-/
import Derived.Test.Qxb6602355aEnd0
namespace Go.Proofs.Qxb6602355a
open Go.ChangeShapes Go.WideShapes Go.ChangeAt Go.RowKit

/-- The world behind '[]byte{quote, quote, quote}'. -/
abbrev W3 (w : World) (q : Int) : World := w.alloc (.cells #[.int .u8 q, .int .u8 q, .int .u8 q] 5)
theorem RowAt.w3 {w : World} {b off n : Nat} {g : Nat → Int} (h : RowAt w b off n g) (hb : b < w.heap.size) (o : Obj) : RowAt (w.alloc o) b off n g := by
  intro j hj
  rw [World.cell?_of_block (w := w) (Below.heap_alloc w o b hb)]
  exact h j hj

/-- HasPrefix(data[i:], []byte{quote, quote, quote}), as stringEnd calls it. -/
theorem prefix_at (b off n c i : Nat) (g : Nat → Int) (w : World) (hnc : n ≤ c) (hcm : c ≤ 9223372036854775807) (hb : b < w.heap.size) (hr : RowAt w b off n g) (hg : ∀ j, 0 ≤ g j ∧ g j < 256) (hi : i < n) :
    Calls Try.prog 34 #[.slice (some ⟨b, off + i, none⟩) (n - i) (c - i), .slice (some ⟨w.heap.size, 0, none⟩) 3 3] (W3 w (g i)) fun e w' => e = .returned (.bool (Plain.multi g n i)) ∧ w' = W3 w (g i) := by
  by_cases h3 : n - i < 3
  · refine (prefix_short b (off + i) (n - i) (c - i) w.heap.size (W3 w (g i)) h3).mono fun e w' ⟨he, hw⟩ => ⟨?_, hw⟩
    rw [he, Plain.multi_false (by omega)]
  · have hr' := hr.w3 hb (.cells #[.int .u8 (g i), .int .u8 (g i), .int .u8 (g i)] 5)
    refine (prefix_long b (off + i) (n - i) (c - i) w.heap.size (g i) (g (i + 1)) (g (i + 2)) (g i) (W3 w (g i)) (by omega) (by omega) (by omega) (hg _) (hg _) (hg _) (hg _)
      (hr' i hi) (by rw [Nat.add_assoc]; exact hr' (i + 1) (by omega)) (by rw [Nat.add_assoc]; exact hr' (i + 2) (by omega)) ?_ ?_ ?_).mono fun e w' ⟨he, hw⟩ => ⟨?_, hw⟩
    · simp [W3]
    · simp [W3]
    · simp [W3]
    · rw [he]
      refine ret_bool ?_
      by_cases h : g (i + 1) = g i ∧ g (i + 2) = g i
      · rw [Plain.multi_true (by omega) h.1 h.2]; simp [h]
      · rw [Plain.multi_false (fun e => h e.2), decide_eq_false (fun e => h e.2)]

set_option maxHeartbeats 400000 in
theorem end_single (b off n c i : Nat) (g : Nat → Int) (w : World) (hn : n ≤ 1048576) (hnc : n ≤ c) (hcm : c ≤ 9223372036854775807) (hb : b < w.heap.size) (hr : RowAt w b off n g) (hg : ∀ j, 0 ≤ g j ∧ g j < 256) (hi : i < n) (hm : Plain.multi g n i = false) :
    Calls Try.prog 30 #[.slice (some ⟨b, off, none⟩) n c, .int .i64 i] w fun e w' => e = .returned (.int .i64 (Plain.send g n i)) ∧ w' = W3 w (g i) := by
  have hci := hr i hi
  have HR := hid hr
  have HC := hid (prefix_at b off n c i g w hnc hcm hb hr hg hi)
  have HM := hid hm
  have HS := hid (Plain.send_single hm)
  rw [hm] at HC
  clear hr hm hg
  go_enter Try.func30, Try.ntmps30
  go_wp2_with fail
  refine HC.out.mono ?_
  rintro e w1 ⟨rfl, rfl⟩
  go_wp2
  go_loop [1] (fun t => ∃ k : Nat, i + 1 ≤ k ∧ k ≤ n + 1 ∧ t = .int .i64 k ∧ Hid (Plain.sscan g n (g i) k = Plain.sscan g n (g i) (i + 1))) (fun t => n + 1 - (intOf t).toNat)
  case atStart => exact ⟨i + 1, by omega, by omega, by go_num, rfl⟩
  case round =>
    obtain ⟨k, hk1, hk2, rfl, HQ⟩ := hrel
    by_cases hlt : k < n
    · have hck := HR.out k hlt
      go_wp2
      · have hq : g k = g i := beq_yes (by assumption)
        go_ret
        exact ⟨ret_int (by rw [HS.out, ← HQ.out, Plain.sscan_hit hlt hq]; rfl), rfl⟩
      · have hq : ¬ g k = g i := beq_no (by assumption)
        have h92 : g k = 92 := by assumption
        have h34 : g i = 34 := beq_yes (by assumption)
        go_round
        case rel => exact ⟨k + 2, by omega, by omega, by go_num, (Plain.sscan_back hlt hq h92 h34).symm.trans HQ.out⟩
        case measure => simp [intOf]; omega
      · have hq : ¬ g k = g i := beq_no (by assumption)
        have h34 : ¬ g i = 34 := beq_no (by assumption)
        go_round
        case rel => exact ⟨k + 1, by omega, by omega, by go_num, (Plain.sscan_go hlt hq (fun e => h34 e.2)).symm.trans HQ.out⟩
        case measure => simp [intOf]; omega
      · have hq : ¬ g k = g i := beq_no (by assumption)
        have h92 : ¬ g k = 92 := by assumption
        go_round
        case rel => exact ⟨k + 1, by omega, by omega, by go_num, (Plain.sscan_go hlt hq (fun e => h92 e.1)).symm.trans HQ.out⟩
        case measure => simp [intOf]; omega
    · go_wp2
      go_ret
      exact ⟨ret_int (by rw [HS.out, ← HQ.out, Plain.sscan_end hlt]), rfl⟩

theorem cnt_zero {g : Nat → Int} {n : Nat} {q : Int} {j : Nat} (h : ¬ (j < n ∧ g j = q)) : Plain.cnt g n q j = 0 := by
  by_cases hj : j < n
  · exact Plain.cnt_miss (fun e => h ⟨hj, e⟩)
  · exact Plain.cnt_end hj
theorem multi_end {g : Nat → Int} {n : Nat} {q : Int} {k m : Nat} (hlt : k < n) (h92 : ¬ g k = 92) (hq : g k = q) (HN : m + Plain.cnt g n q (k + m) = Plain.cnt g n q k)
    (hz : ¬ (k + m < n ∧ g (k + m) = q)) (h3 : (3 : Int) ≤ (m : Int)) : Plain.mscan g n q k = k + m := by
  have h1 := Plain.cnt_hit hlt hq
  rw [cnt_zero hz] at HN
  rw [Plain.mscan_hit hlt h92 hq (by omega)]
  omega
theorem multi_on {g : Nat → Int} {n : Nat} {q : Int} {k m : Nat} (hlt : k < n) (h92 : ¬ g k = 92) (hq : g k = q) (HN : m + Plain.cnt g n q (k + m) = Plain.cnt g n q k)
    (hz : ¬ (k + m < n ∧ g (k + m) = q)) (h3 : (m : Int) < 3) : 1 ≤ m ∧ Plain.mscan g n q (k + m) = Plain.mscan g n q k := by
  have h1 := Plain.cnt_hit hlt hq
  rw [cnt_zero hz] at HN
  rw [Plain.mscan_short hlt h92 hq (by omega)]
  refine ⟨by omega, ?_⟩
  rw [show k + 1 + Plain.cnt g n q (k + 1) = k + m from by omega]
theorem cnt_next {g : Nat → Int} {n : Nat} {q : Int} {k m : Nat} (HN : m + Plain.cnt g n q (k + m) = Plain.cnt g n q k) (hlt : k + m < n) (hq : g (k + m) = q) :
    m + 1 + Plain.cnt g n q (k + (m + 1)) = Plain.cnt g n q k := by
  have h1 := Plain.cnt_hit hlt hq
  rw [← Nat.add_assoc k m 1]
  omega

set_option maxHeartbeats 1000000 in
theorem end_multi (b off n c i : Nat) (g : Nat → Int) (w : World) (hn : n ≤ 1048576) (hnc : n ≤ c) (hcm : c ≤ 9223372036854775807) (hb : b < w.heap.size) (hr : RowAt w b off n g) (hg : ∀ j, 0 ≤ g j ∧ g j < 256) (hi : i < n) (hm : Plain.multi g n i = true) :
    Calls Try.prog 30 #[.slice (some ⟨b, off, none⟩) n c, .int .i64 i] w fun e w' => e = .returned (.int .i64 (Plain.send g n i)) ∧ w' = W3 w (g i) := by
  have hci := hr i hi
  have HR := hid hr
  have HC := hid (prefix_at b off n c i g w hnc hcm hb hr hg hi)
  have HS := hid (Plain.send_multi hm)
  have hi3 := (Plain.of_multi_true hm).1
  rw [hm] at HC
  clear hr hm hg
  go_enter Try.func30, Try.ntmps30
  go_wp2_with fail
  refine HC.out.mono ?_
  rintro e w1 ⟨rfl, rfl⟩
  go_wp2
  go_loop [1] (fun t => ∃ k : Nat, i + 3 ≤ k ∧ k ≤ n + 1 ∧ t = .int .i64 k ∧ Hid (Plain.mscan g n (g i) k = Plain.mscan g n (g i) (i + 3))) (fun t => n + 1 - (intOf t).toNat)
  case atStart => exact ⟨i + 3, by omega, by omega, by go_num, rfl⟩
  case round =>
    obtain ⟨k, hk1, hk2, rfl, HQ⟩ := hrel
    by_cases hlt : k < n
    · have hck := HR.out k hlt
      go_wp2
      · have h92 : g k = 92 := beq_yes (by assumption)
        have h34 : g i = 34 := beq_yes (by assumption)
        go_round
        case rel => exact ⟨k + 2, by omega, by omega, by go_num, (Plain.mscan_back hlt h92 h34).symm.trans HQ.out⟩
        case measure => simp [intOf]; omega
      · have h92 : g k = 92 := beq_yes (by assumption)
        have h34 : ¬ g i = 34 := beq_no (by assumption)
        go_round
        case rel => exact ⟨k + 1, by omega, by omega, by go_num, (Plain.mscan_slash hlt h92 h34).symm.trans HQ.out⟩
        case measure => simp [intOf]; omega
      · have h92 : Hid (¬ g k = 92) := beq_no (by assumption)
        have hq : Hid (g k = g i) := beq_yes (by assumption)
        go_loop [6] (fun t => ∃ m : Nat, k + m ≤ n ∧ t = .int .i64 m ∧ Hid (m + Plain.cnt g n (g i) (k + m) = Plain.cnt g n (g i) k)) (fun t => n - (intOf t).toNat)
        case atStart => exact ⟨0, by omega, rfl, by show 0 + _ = _; rw [Nat.zero_add]; rfl⟩
        case round =>
          obtain ⟨m, hm1, rfl, HN⟩ := hrel
          by_cases hlm : k + m < n
          · have hcm2 := HR.out (k + m) hlm
            go_wp2
            · have hq2 : g (k + m) = g i := beq_yes (by assumption)
              go_round
              case rel => exact ⟨m + 1, by omega, by go_num, cnt_next HN.out hlm hq2⟩
              case measure => simp [intOf]; omega
            · have hq2 : ¬ g (k + m) = g i := beq_no (by assumption)
              have h3 : (3 : Int) ≤ (m : Int) := by assumption
              go_ret
              exact ⟨ret_int (by rw [HS.out, ← HQ.out, multi_end hlt h92.out hq.out HN.out (fun e => hq2 e.2) h3]; omega), rfl⟩
            · have hq2 : ¬ g (k + m) = g i := beq_no (by assumption)
              have h3 : (m : Int) < 3 := by assumption
              have hon := multi_on hlt h92.out hq.out HN.out (fun e => hq2 e.2) h3
              go_round
              case rel => exact ⟨k + m, by omega, by omega, by go_num, hon.2.trans HQ.out⟩
              case measure => simp [intOf]; omega
          · go_wp2
            · have h3 : (3 : Int) ≤ (m : Int) := by assumption
              go_ret
              exact ⟨ret_int (by rw [HS.out, ← HQ.out, multi_end hlt h92.out hq.out HN.out (fun e => hlm e.1) h3]; omega), rfl⟩
            · have h3 : (m : Int) < 3 := by assumption
              have hon := multi_on hlt h92.out hq.out HN.out (fun e => hlm e.1) h3
              go_round
              case rel => exact ⟨k + m, by omega, by omega, by go_num, hon.2.trans HQ.out⟩
              case measure => simp [intOf]; omega
      · have h92 : ¬ g k = 92 := beq_no (by assumption)
        have hq : ¬ g k = g i := beq_no (by assumption)
        go_round
        case rel => exact ⟨k + 1, by omega, by omega, by go_num, (Plain.mscan_go hlt h92 hq).symm.trans HQ.out⟩
        case measure => simp [intOf]; omega
    · go_wp2
      go_ret
      exact ⟨ret_int (by rw [HS.out, ← HQ.out, Plain.mscan_end hlt]), rfl⟩

theorem stringEnd_any (b off n c i : Nat) (g : Nat → Int) (w : World) (hn : n ≤ 1048576) (hnc : n ≤ c) (hcm : c ≤ 9223372036854775807) (hb : b < w.heap.size) (hr : RowAt w b off n g) (hg : ∀ j, 0 ≤ g j ∧ g j < 256) (hi : i < n) :
    Calls Try.prog 30 #[.slice (some ⟨b, off, none⟩) n c, .int .i64 i] w fun e w' => e = .returned (.int .i64 (Plain.send g n i)) ∧ w' = W3 w (g i) := by
  cases hm : Plain.multi g n i with
  | true => exact end_multi b off n c i g w hn hnc hcm hb hr hg hi hm
  | false => exact end_single b off n c i g w hn hnc hcm hb hr hg hi hm

theorem zzStringEnd_any (b off n c i : Nat) (g : Nat → Int) (w : World) (hn : n ≤ 1048576) (hnc : n ≤ c) (hcm : c ≤ 9223372036854775807) (hb : b < w.heap.size) (hr : RowAt w b off n g) (hg : ∀ j, 0 ≤ g j ∧ g j < 256) (hi : i < n) :
    Calls Try.prog 16 #[.slice (some ⟨b, off, none⟩) n c, .int .i64 i] w fun e w' => e = .returned (.int .i64 (Plain.send g n i)) ∧ w' = W3 w (g i) := by
  have HC := hid (stringEnd_any b off n c i g w hn hnc hcm hb hr hg hi)
  clear hr hg
  go_enter Try.func16, Try.ntmps16
  go_wp2_with fail
  refine HC.out.mono ?_
  rintro e w' ⟨rfl, rfl⟩
  go_wp2
  go_ret
  exact ⟨rfl, rfl⟩
end Go.Proofs.Qxb6602355a
