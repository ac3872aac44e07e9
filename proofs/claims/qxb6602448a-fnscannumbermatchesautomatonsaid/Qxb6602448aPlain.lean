/-
  PLAIN MATHEMATICS FOR THE SEAT b6602448a: scanNumber as a function on 'g : Nat → Int' (the bytes) and a length; the automaton. No Go in sight.
-/
namespace Go.Proofs.Qxb6602448a.Plain

/-- isDigit. -/
def dig (c : Int) : Bool := decide (48 ≤ c) && decide (c ≤ 57)
theorem dig_true {c : Int} (h1 : 48 ≤ c) (h2 : c ≤ 57) : dig c = true := by simp [dig, h1, h2]
theorem dig_false {c : Int} (h : ¬ (48 ≤ c ∧ c ≤ 57)) : dig c = false := by
  cases hd : dig c with
  | false => rfl
  | true => simp [dig] at hd; exact absurd hd h
theorem of_dig {c : Int} (h : dig c = true) : 48 ≤ c ∧ c ≤ 57 := by simpa [dig] using h
theorem of_not_dig {c : Int} (h : dig c = false) : ¬ (48 ≤ c ∧ c ≤ 57) := by
  intro ⟨h1, h2⟩; rw [dig_true h1 h2] at h; cases h

/-- skipDigits. -/
def skip (g : Nat → Int) (n i : Nat) : Nat :=
  if i < n then (if dig (g i) = true then skip g n (i + 1) else i) else i
theorem skip_end {g : Nat → Int} {n i : Nat} (h : ¬ i < n) : skip g n i = i := by rw [skip, if_neg h]
theorem skip_go {g : Nat → Int} {n i : Nat} (h : i < n) (hd : dig (g i) = true) : skip g n i = skip g n (i + 1) := by
  rw [skip, if_pos h, if_pos hd]
theorem skip_stop {g : Nat → Int} {n i : Nat} (hd : dig (g i) = false) : skip g n i = i := by
  rw [skip, if_neg (c := dig (g i) = true) (by simp [hd]), ite_self]

/-- Behind the mantissa: the exponent, at j. 0: no number (-1 in Go); else the end plus one. -/
def expo (g : Nat → Int) (n j : Nat) : Nat :=
  if j < n ∧ (g j = 101 ∨ g j = 69) then
    if j + 1 < n ∧ (g (j + 1) = 43 ∨ g (j + 1) = 45) then
      (if skip g n (j + 2) = j + 2 then 0 else skip g n (j + 2) + 1)
    else (if skip g n (j + 1) = j + 1 then 0 else skip g n (j + 1) + 1)
  else j + 1
/-- Behind the whole part: the fraction, at j. -/
def frac (g : Nat → Int) (n j : Nat) : Nat :=
  if j < n ∧ g j = 46 then (if skip g n (j + 1) = j + 1 then 0 else expo g n (skip g n (j + 1)))
  else expo g n j
/-- Behind the sign, at j. -/
def whole (g : Nat → Int) (n j : Nat) : Nat :=
  if j < n ∧ g j = 48 then frac g n (j + 1)
  else if j < n ∧ dig (g j) = true then frac g n (skip g n j)
  else 0
/-- scanNumber. -/
def scan (g : Nat → Int) (n i : Nat) : Nat :=
  if i < n ∧ g i = 45 then whole g n (i + 1) else whole g n i

theorem skip_bd (g : Nat → Int) (n : Nat) : ∀ (d i : Nat), n - i = d → i ≤ skip g n i ∧ (i ≤ n → skip g n i ≤ n) := by
  intro d
  induction d with
  | zero => intro i h; rw [skip_end (by omega)]; omega
  | succ d ih =>
    intro i h
    cases hd : dig (g i) with
    | true => rw [skip_go (by omega) hd]; have := ih (i + 1) (by omega); omega
    | false => rw [skip_stop hd]; omega
theorem skip_lo (g : Nat → Int) (n i : Nat) : i ≤ skip g n i := (skip_bd g n (n - i) i rfl).1
theorem skip_hi (g : Nat → Int) (n i : Nat) (h : i ≤ n) : skip g n i ≤ n := (skip_bd g n (n - i) i rfl).2 h

/-! ### Moved by k -/
theorem skip_shift (g : Nat → Int) (n k : Nat) : ∀ (d i : Nat), n - i = d → skip g (n + k) (i + k) = skip (fun x => g (x + k)) n i + k := by
  intro d
  induction d with
  | zero => intro i h; rw [skip_end (by omega), skip_end (by omega)]
  | succ d ih =>
    intro i h
    cases hd : dig (g (i + k)) with
    | true =>
      rw [skip_go (g := g) (by omega) hd, skip_go (g := fun x => g (x + k)) (by omega) hd, show i + k + 1 = i + 1 + k from by omega, ih (i + 1) (by omega)]
    | false => rw [skip_stop (g := g) hd, skip_stop (g := fun x => g (x + k)) hd]
def plus (r k : Nat) : Nat := if r = 0 then 0 else r + k
theorem plus_zero (k : Nat) : plus 0 k = 0 := rfl
theorem plus_succ (r k : Nat) : plus (r + 1) k = r + k + 1 := by simp [plus]; omega
theorem plus_ite {c : Prop} [Decidable c] (a b k : Nat) : plus (if c then a else b) k = if c then plus a k else plus b k := by split <;> rfl
theorem expo_shift (g : Nat → Int) (n k j : Nat) : expo g (n + k) (j + k) = plus (expo (fun x => g (x + k)) n j) k := by
  unfold expo
  rw [plus_ite, plus_ite, plus_ite, plus_ite, plus_zero, plus_succ, plus_succ, plus_succ, show j + k + 2 = j + 2 + k from by omega, show j + k + 1 = j + 1 + k from by omega,
    skip_shift g n k _ (j + 2) rfl, skip_shift g n k _ (j + 1) rfl]
  by_cases h1 : j < n ∧ (g (j + k) = 101 ∨ g (j + k) = 69)
  · rw [if_pos (by omega), if_pos h1]
    by_cases h2 : j + 1 < n ∧ (g (j + 1 + k) = 43 ∨ g (j + 1 + k) = 45)
    · rw [if_pos (by omega), if_pos h2]
      by_cases h3 : skip (fun x => g (x + k)) n (j + 2) = j + 2
      · rw [if_pos (by omega), if_pos h3]
      · rw [if_neg (by omega), if_neg h3]
    · rw [if_neg (by omega), if_neg h2]
      by_cases h3 : skip (fun x => g (x + k)) n (j + 1) = j + 1
      · rw [if_pos (by omega), if_pos h3]
      · rw [if_neg (by omega), if_neg h3]
  · rw [if_neg (by omega), if_neg h1]
theorem frac_shift (g : Nat → Int) (n k j : Nat) : frac g (n + k) (j + k) = plus (frac (fun x => g (x + k)) n j) k := by
  unfold frac
  rw [plus_ite, plus_ite, plus_zero, show j + k + 1 = j + 1 + k from by omega, skip_shift g n k _ (j + 1) rfl, expo_shift, expo_shift]
  by_cases h1 : j < n ∧ g (j + k) = 46
  · rw [if_pos (by omega), if_pos h1]
    by_cases h3 : skip (fun x => g (x + k)) n (j + 1) = j + 1
    · rw [if_pos (by omega), if_pos h3]
    · rw [if_neg (by omega), if_neg h3]
  · rw [if_neg (by omega), if_neg h1]
theorem whole_shift (g : Nat → Int) (n k j : Nat) : whole g (n + k) (j + k) = plus (whole (fun x => g (x + k)) n j) k := by
  unfold whole
  rw [plus_ite, plus_ite, plus_zero, show j + k + 1 = j + 1 + k from by omega, skip_shift g n k _ j rfl, frac_shift, frac_shift]
  by_cases h1 : j < n ∧ g (j + k) = 48
  · rw [if_pos (by omega), if_pos h1]
  · rw [if_neg (by omega), if_neg h1]
    by_cases h2 : j < n ∧ dig (g (j + k)) = true
    · rw [if_pos ⟨by omega, h2.2⟩, if_pos h2]
    · rw [if_neg (fun h => h2 ⟨by omega, h.2⟩), if_neg h2]
/-- SCANNING FROM i + k IS SCANNING THE REST FROM i, MOVED BY k. -/
theorem scan_shift (g : Nat → Int) (n k i : Nat) : scan g (n + k) (i + k) = plus (scan (fun x => g (x + k)) n i) k := by
  unfold scan
  rw [plus_ite, show i + k + 1 = i + 1 + k from by omega, whole_shift, whole_shift]
  by_cases h1 : i < n ∧ g (i + k) = 45
  · rw [if_pos (by omega), if_pos h1]
  · rw [if_neg (by omega), if_neg h1]

/-! ### The end lies within, past i; and cutting there finds it again -/
theorem expo_bd (g : Nat → Int) (n j : Nat) (h : j ≤ n) : expo g n j = 0 ∨ (j < expo g n j ∧ expo g n j ≤ n + 1) := by
  unfold expo
  have a1 := skip_lo g n (j + 1)
  have a2 := skip_lo g n (j + 2)
  split
  · split
    · have b2 := skip_hi g n (j + 2) (by omega)
      split <;> omega
    · have b1 := skip_hi g n (j + 1) (by omega)
      split <;> omega
  · omega
theorem frac_bd (g : Nat → Int) (n j : Nat) (h : j ≤ n) : frac g n j = 0 ∨ (j < frac g n j ∧ frac g n j ≤ n + 1) := by
  unfold frac
  have a1 := skip_lo g n (j + 1)
  split
  · have b1 := skip_hi g n (j + 1) (by omega)
    have := expo_bd g n (skip g n (j + 1)) b1
    split <;> omega
  · exact expo_bd g n j h
theorem whole_bd (g : Nat → Int) (n j : Nat) : whole g n j = 0 ∨ (j + 1 < whole g n j ∧ whole g n j ≤ n + 1) := by
  unfold whole
  split
  · have := frac_bd g n (j + 1) (by omega); omega
  · split
    · rename_i h
      have a1 := skip_lo g n (j + 1)
      rw [skip_go h.1 h.2]
      have := frac_bd g n (skip g n (j + 1)) (skip_hi g n (j + 1) (by omega))
      omega
    · exact .inl rfl
/-- No number, or an end past i and within. -/
theorem scan_bd (g : Nat → Int) (n i : Nat) : scan g n i = 0 ∨ (i + 1 < scan g n i ∧ scan g n i ≤ n + 1) := by
  unfold scan
  split
  · have := whole_bd g n (i + 1); omega
  · exact whole_bd g n i

theorem skip_cut (g : Nat → Int) (n m : Nat) (hm : m ≤ n) : ∀ (d i : Nat), n - i = d → skip g n i ≤ m → skip g m i = skip g n i := by
  intro d
  induction d with
  | zero => intro i h hs; rw [skip_end (i := i) (n := n) (by omega)]; rw [skip_end (by omega)]
  | succ d ih =>
    intro i h hs
    cases hd : dig (g i) with
    | true =>
      rw [skip_go (n := n) (by omega) hd] at hs
      have := skip_lo g n (i + 1)
      rw [skip_go (n := n) (by omega) hd, skip_go (n := m) (by omega) hd]
      exact ih (i + 1) (by omega) hs
    | false => rw [skip_stop hd, skip_stop hd]
theorem skip_cut' (g : Nat → Int) (n m i : Nat) (hm : m ≤ n) (hs : skip g n i ≤ m) : skip g m i = skip g n i := skip_cut g n m hm (n - i) i rfl hs

theorem expo_cut (g : Nat → Int) (n m j : Nat) (hm : m ≤ n) (h : expo g n j = m + 1) : expo g m j = m + 1 := by
  unfold expo at h ⊢
  by_cases h1 : j < n ∧ (g j = 101 ∨ g j = 69)
  · rw [if_pos h1] at h
    by_cases h2 : j + 1 < n ∧ (g (j + 1) = 43 ∨ g (j + 1) = 45)
    · rw [if_pos h2] at h
      have a := skip_lo g n (j + 2)
      by_cases h3 : skip g n (j + 2) = j + 2
      · rw [if_pos h3] at h; omega
      · rw [if_neg h3] at h
        rw [if_pos (by omega), if_pos (by omega), skip_cut' g n m (j + 2) hm (by omega), if_neg h3, h]
    · rw [if_neg h2] at h
      have a := skip_lo g n (j + 1)
      by_cases h3 : skip g n (j + 1) = j + 1
      · rw [if_pos h3] at h; omega
      · rw [if_neg h3] at h
        rw [if_pos (by omega), if_neg (by omega), skip_cut' g n m (j + 1) hm (by omega), if_neg h3, h]
  · rw [if_neg h1] at h
    rw [if_neg (by omega)]; exact h
theorem frac_cut (g : Nat → Int) (n m j : Nat) (hm : m ≤ n) (h : frac g n j = m + 1) : frac g m j = m + 1 := by
  unfold frac at h ⊢
  by_cases h1 : j < n ∧ g j = 46
  · rw [if_pos h1] at h
    have a := skip_lo g n (j + 1)
    have b := skip_hi g n (j + 1) (by omega)
    by_cases h3 : skip g n (j + 1) = j + 1
    · rw [if_pos h3] at h; omega
    · rw [if_neg h3] at h
      have c := expo_bd g n (skip g n (j + 1)) b
      rw [if_pos (by omega), skip_cut' g n m (j + 1) hm (by omega), if_neg h3]
      exact expo_cut g n m _ hm h
  · rw [if_neg h1] at h
    rw [if_neg (by omega)]
    exact expo_cut g n m j hm h
theorem whole_cut (g : Nat → Int) (n m j : Nat) (hm : m ≤ n) (h : whole g n j = m + 1) : whole g m j = m + 1 := by
  have b := whole_bd g n j
  unfold whole at h ⊢
  by_cases h1 : j < n ∧ g j = 48
  · rw [if_pos h1] at h
    have := frac_bd g n (j + 1) (by omega)
    rw [if_pos (by omega)]
    exact frac_cut g n m (j + 1) hm h
  · rw [if_neg h1] at h
    by_cases h2 : j < n ∧ dig (g j) = true
    · rw [if_pos h2] at h
      have a := skip_lo g n j
      have a' := skip_hi g n j (by omega)
      have c := frac_bd g n (skip g n j) a'
      have e : skip g m j = skip g n j := skip_cut' g n m j hm (by omega)
      have hj : j < m := by
        rw [skip_go h2.1 h2.2] at c h
        have := skip_lo g n (j + 1)
        omega
      rw [if_neg (by omega), if_pos ⟨hj, h2.2⟩, e]
      exact frac_cut g n m _ hm h
    · rw [if_neg h2] at h; omega
/-- CUTTING AT THE END FINDS THE SAME END. -/
theorem scan_cut (g : Nat → Int) (n m i : Nat) (hm : m ≤ n) (h : scan g n i = m + 1) : scan g m i = m + 1 := by
  have b := scan_bd g n i
  unfold scan at h ⊢
  by_cases h1 : i < n ∧ g i = 45
  · rw [if_pos h1] at h
    rw [if_pos (by unfold scan at b; rw [if_pos h1] at b; omega)]
    exact whole_cut g n m _ hm h
  · rw [if_neg h1] at h
    rw [if_neg (by omega)]
    exact whole_cut g n m _ hm h

/-! ### The automaton. States 0 .. 8, 9: dead. -/
def step (s c : Int) : Int :=
  if s = 0 then (if c = 45 then 1 else if c = 48 then 2 else if dig c = true then 3 else 9)
  else if s = 1 then (if c = 48 then 2 else if dig c = true then 3 else 9)
  else if s = 2 then (if c = 46 then 4 else if c = 101 ∨ c = 69 then 6 else 9)
  else if s = 3 then (if dig c = true then 3 else if c = 46 then 4 else if c = 101 ∨ c = 69 then 6 else 9)
  else if s = 4 then (if dig c = true then 5 else 9)
  else if s = 5 then (if dig c = true then 5 else if c = 101 ∨ c = 69 then 6 else 9)
  else if s = 6 then (if c = 43 ∨ c = 45 then 7 else if dig c = true then 8 else 9)
  else if s = 7 then (if dig c = true then 8 else 9)
  else if s = 8 then (if dig c = true then 8 else 9)
  else 9
def acc (s : Int) : Bool := decide (s = 2) || decide (s = 3) || decide (s = 5) || decide (s = 8)
/-- zzb1ModelScan's loop from state s at j: the end plus one, or 0. -/
def run (g : Nat → Int) (n : Nat) (s : Int) (j : Nat) : Nat :=
  if j < n then
    (if step s (g j) = 9 then (if acc s = true then j + 1 else 0) else run g n (step s (g j)) (j + 1))
  else (if acc s = true then j + 1 else 0)
theorem run_end {g : Nat → Int} {n : Nat} {s : Int} {j : Nat} (h : ¬ j < n) : run g n s j = if acc s = true then j + 1 else 0 := by
  rw [run, if_neg h]
theorem run_dead {g : Nat → Int} {n : Nat} {s : Int} {j : Nat} (h : step s (g j) = 9) : run g n s j = if acc s = true then j + 1 else 0 := by
  rw [run, if_pos h, ite_self]
theorem run_go {g : Nat → Int} {n : Nat} {s : Int} {j : Nat} (h : j < n) (hs : ¬ step s (g j) = 9) : run g n s j = run g n (step s (g j)) (j + 1) := by
  rw [run, if_pos h, if_neg hs]
theorem run_to {g : Nat → Int} {n : Nat} {s t : Int} {j : Nat} (h : j < n) (hs : step s (g j) = t) (ht : ¬ t = 9) : run g n s j = run g n t (j + 1) := by
  rw [run_go h (by rw [hs]; exact ht), hs]
theorem acc0 : acc 0 = false := by decide
theorem acc1 : acc 1 = false := by decide
theorem acc2 : acc 2 = true := by decide
theorem acc3 : acc 3 = true := by decide
theorem acc4 : acc 4 = false := by decide
theorem acc5 : acc 5 = true := by decide
theorem acc6 : acc 6 = false := by decide
theorem acc7 : acc 7 = false := by decide
theorem acc8 : acc 8 = true := by decide
theorem dig_ne {c : Int} (h : dig c = true) : ¬ c = 43 ∧ ¬ c = 45 ∧ ¬ c = 46 ∧ ¬ c = 101 ∧ ¬ c = 69 := by
  have := of_dig h; omega
theorem dig48 {c : Int} (h : c = 48) : dig c = true := dig_true (by omega) (by omega)

/-- In the exponent's digits. -/
theorem run8 (g : Nat → Int) (n : Nat) : ∀ (d j : Nat), n - j = d → run g n 8 j = skip g n j + 1 := by
  intro d
  induction d with
  | zero => intro j h; rw [run_end (by omega), skip_end (by omega), if_pos acc8]
  | succ d ih =>
    intro j h
    cases hd : dig (g j) with
    | true => rw [run_to (t := 8) (by omega) (by simp [step, hd]) (by omega), skip_go (by omega) hd]; exact ih (j + 1) (by omega)
    | false => rw [run_dead (by simp [step, hd]), skip_stop hd, if_pos acc8]
/-- Behind e (and its sign, if any): digits are owed. -/
theorem run7 (g : Nat → Int) (n j : Nat) : run g n 7 j = if skip g n j = j then 0 else skip g n j + 1 := by
  by_cases h : j < n
  · cases hd : dig (g j) with
    | true =>
      have := skip_lo g n (j + 1)
      rw [run_to (t := 8) h (by simp [step, hd]) (by omega), run8 g n _ (j + 1) rfl, skip_go h hd, if_neg (by omega)]
    | false => rw [run_dead (by simp [step, hd]), skip_stop hd, if_pos rfl, if_neg (by simp [acc7])]
  · rw [run_end h, skip_end h, if_pos rfl, if_neg (by simp [acc7])]
theorem run6 (g : Nat → Int) (n j : Nat) : run g n 6 j = if j < n ∧ (g j = 43 ∨ g j = 45) then (if skip g n (j + 1) = j + 1 then 0 else skip g n (j + 1) + 1) else (if skip g n j = j then 0 else skip g n j + 1) := by
  by_cases h : j < n
  · by_cases hs : g j = 43 ∨ g j = 45
    · rw [if_pos ⟨h, hs⟩, run_to (t := 7) h (by simp [step, hs]) (by omega), run7]
    · rw [if_neg (fun e => hs e.2)]
      cases hd : dig (g j) with
      | true =>
        have := skip_lo g n (j + 1)
        rw [run_to (t := 8) h (by simp [step, hs, hd]) (by omega), run8 g n _ (j + 1) rfl, skip_go h hd, if_neg (by omega)]
      | false => rw [run_dead (by simp [step, hs, hd]), skip_stop hd, if_pos rfl, if_neg (by simp [acc6])]
  · rw [if_neg (fun e => h e.1), run_end h, skip_end h, if_pos rfl, if_neg (by simp [acc6])]
/-- What stands behind a mantissa that may end. -/
theorem run_e (g : Nat → Int) (n j : Nat) (h : j < n) (he : g j = 101 ∨ g j = 69) : expo g n j = run g n 6 (j + 1) := by
  rw [run6, expo, if_pos ⟨h, he⟩]
theorem expo_no (g : Nat → Int) (n j : Nat) (h : ¬ (j < n ∧ (g j = 101 ∨ g j = 69))) : expo g n j = j + 1 := by
  rw [expo, if_neg h]
theorem run5 (g : Nat → Int) (n : Nat) : ∀ (d j : Nat), n - j = d → run g n 5 j = expo g n (skip g n j) := by
  intro d
  induction d with
  | zero => intro j h; rw [run_end (by omega), skip_end (by omega), if_pos acc5, expo_no _ _ _ (by omega)]
  | succ d ih =>
    intro j h
    cases hd : dig (g j) with
    | true => rw [run_to (t := 5) (by omega) (by simp [step, hd]) (by omega), skip_go (by omega) hd]; exact ih (j + 1) (by omega)
    | false =>
      rw [skip_stop hd]
      by_cases he : g j = 101 ∨ g j = 69
      · rw [run_to (t := 6) (by omega) (by simp [step, hd, he]) (by omega), run_e g n j (by omega) he]
      · rw [run_dead (by simp [step, hd, he]), if_pos acc5, expo_no _ _ _ (fun e => he e.2)]
theorem run4 (g : Nat → Int) (n j : Nat) : run g n 4 j = if skip g n j = j then 0 else expo g n (skip g n j) := by
  by_cases h : j < n
  · cases hd : dig (g j) with
    | true =>
      have := skip_lo g n (j + 1)
      rw [run_to (t := 5) h (by simp [step, hd]) (by omega), run5 g n _ (j + 1) rfl, skip_go h hd, if_neg (by omega)]
    | false => rw [run_dead (by simp [step, hd]), skip_stop hd, if_pos rfl, if_neg (by simp [acc4])]
  · rw [run_end h, skip_end h, if_pos rfl, if_neg (by simp [acc4])]
theorem frac_dot (g : Nat → Int) (n j : Nat) (h : j < n) (hd : g j = 46) : frac g n j = run g n 4 (j + 1) := by
  rw [run4, frac, if_pos ⟨h, hd⟩]
theorem frac_no (g : Nat → Int) (n j : Nat) (h : ¬ (j < n ∧ g j = 46)) : frac g n j = expo g n j := by
  rw [frac, if_neg h]
theorem run3 (g : Nat → Int) (n : Nat) : ∀ (d j : Nat), n - j = d → run g n 3 j = frac g n (skip g n j) := by
  intro d
  induction d with
  | zero => intro j h; rw [run_end (by omega), skip_end (by omega), if_pos acc3, frac_no _ _ _ (by omega), expo_no _ _ _ (by omega)]
  | succ d ih =>
    intro j h
    cases hd : dig (g j) with
    | true => rw [run_to (t := 3) (by omega) (by simp [step, hd]) (by omega), skip_go (by omega) hd]; exact ih (j + 1) (by omega)
    | false =>
      rw [skip_stop hd]
      by_cases h46 : g j = 46
      · rw [run_to (t := 4) (by omega) (by rw [h46] at hd ⊢; simp [step, hd]) (by omega), frac_dot g n j (by omega) h46]
      · rw [frac_no _ _ _ (fun e => h46 e.2)]
        by_cases he : g j = 101 ∨ g j = 69
        · rw [run_to (t := 6) (by omega) (by simp [step, hd, h46, he]) (by omega), run_e g n j (by omega) he]
        · rw [run_dead (by simp [step, hd, h46, he]), if_pos acc3, expo_no _ _ _ (fun e => he e.2)]
theorem run2 (g : Nat → Int) (n j : Nat) : run g n 2 j = frac g n j := by
  by_cases h : j < n
  · by_cases h46 : g j = 46
    · rw [run_to (t := 4) h (by simp [step, h46]) (by omega), frac_dot g n j h h46]
    · rw [frac_no _ _ _ (fun e => h46 e.2)]
      by_cases he : g j = 101 ∨ g j = 69
      · rw [run_to (t := 6) h (by simp [step, h46, he]) (by omega), run_e g n j h he]
      · rw [run_dead (by simp [step, h46, he]), if_pos acc2, expo_no _ _ _ (fun e => he e.2)]
  · rw [run_end h, if_pos acc2, frac_no _ _ _ (fun e => h e.1), expo_no _ _ _ (fun e => h e.1)]
theorem run1 (g : Nat → Int) (n j : Nat) : run g n 1 j = whole g n j := by
  unfold whole
  by_cases h : j < n
  · by_cases h48 : g j = 48
    · rw [run_to (t := 2) h (by simp [step, h48]) (by omega), if_pos ⟨h, h48⟩, run2]
    · rw [if_neg (fun e => h48 e.2)]
      cases hd : dig (g j) with
      | true => rw [run_to (t := 3) h (by simp [step, h48, hd]) (by omega), if_pos ⟨h, rfl⟩, run3 g n _ (j + 1) rfl, skip_go h hd]
      | false => rw [run_dead (by simp [step, h48, hd]), if_neg (c := acc 1 = true) (by simp [acc1]), if_neg (by simp)]
  · rw [run_end h, if_neg (c := acc 1 = true) (by simp [acc1]), if_neg (fun e => h e.1), if_neg (fun e => h e.1)]
/-- THE AUTOMATON FROM ITS START IS scanNumber. -/
theorem run0 (g : Nat → Int) (n j : Nat) : run g n 0 j = scan g n j := by
  unfold scan
  by_cases h : j < n
  · by_cases h45 : g j = 45
    · rw [run_to (t := 1) h (by simp [step, h45]) (by omega), if_pos ⟨h, h45⟩, run1]
    · rw [if_neg (fun e => h45 e.2)]
      unfold whole
      by_cases h48 : g j = 48
      · rw [run_to (t := 2) h (by simp [step, h48]) (by omega), if_pos ⟨h, h48⟩, run2]
      · rw [if_neg (fun e => h48 e.2)]
        cases hd : dig (g j) with
        | true => rw [run_to (t := 3) h (by simp [step, h45, h48, hd]) (by omega), if_pos ⟨h, rfl⟩, run3 g n _ (j + 1) rfl, skip_go h hd]
        | false => rw [run_dead (by simp [step, h45, h48, hd]), if_neg (c := acc 0 = true) (by simp [acc0]), if_neg (by simp)]
  · rw [run_end h, if_neg (c := acc 0 = true) (by simp [acc0]), if_neg (fun e => h e.1)]
    unfold whole
    rw [if_neg (fun e => h e.1), if_neg (fun e => h e.1)]
end Go.Proofs.Qxb6602448a.Plain
