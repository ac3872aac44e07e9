/-
  PLAIN MATHEMATICS FOR THE SEAT b6602355a: the scanners as functions on 'g : Nat → Int' (the bytes) and a length. No Go in sight.
-/
namespace Go.Proofs.Qxb6602355a.Plain

/-- quotedLen's loop from i on: where the closing quote lies, plus one; 0: none. -/
def qscan (g : Nat → Int) (n i : Nat) : Nat :=
  if i < n then
    if g i = 92 then qscan g n (i + 2)
    else if g i = 34 then i + 1
    else qscan g n (i + 1)
  else 0

/-- quotedLen. -/
def qlen (g : Nat → Int) (n : Nat) : Nat :=
  if g 0 = 34 then (if qscan g n 1 = 0 then 1 else qscan g n 1) else 1

/-- closingQuoteAfter's loop: the index plus one; 0: none. -/
def cqa (g : Nat → Int) (n k bs : Nat) : Nat :=
  if k < n then
    if g k = 34 ∧ bs % 2 = 0 then k + 1
    else cqa g n (k + 1) (if g k = 92 then bs + 1 else 0)
  else 0

theorem qscan_end {g : Nat → Int} {n i : Nat} (h : ¬ i < n) : qscan g n i = 0 := by
  rw [qscan, if_neg h]
theorem qscan_back {g : Nat → Int} {n i : Nat} (h : i < n) (hb : g i = 92) : qscan g n i = qscan g n (i + 2) := by
  rw [qscan, if_pos h, if_pos hb]
theorem qscan_hit {g : Nat → Int} {n i : Nat} (h : i < n) (hb : g i = 34) : qscan g n i = i + 1 := by
  rw [qscan, if_pos h, if_neg (by omega), if_pos hb]
theorem qscan_go {g : Nat → Int} {n i : Nat} (h : i < n) (hb : ¬ g i = 92) (hq : ¬ g i = 34) : qscan g n i = qscan g n (i + 1) := by
  rw [qscan, if_pos h, if_neg hb, if_neg hq]

theorem cqa_end {g : Nat → Int} {n i b : Nat} (h : ¬ i < n) : cqa g n i b = 0 := by
  rw [cqa, if_neg h]
theorem cqa_hit {g : Nat → Int} {n i b : Nat} (h : i < n) (hq : g i = 34) (hb : b % 2 = 0) : cqa g n i b = i + 1 := by
  rw [cqa, if_pos h, if_pos ⟨hq, hb⟩]
theorem cqa_odd {g : Nat → Int} {n i b : Nat} (h : i < n) (hq : g i = 34) (hb : b % 2 = 1) : cqa g n i b = cqa g n (i + 1) 0 := by
  rw [cqa, if_pos h, if_neg (by omega), if_neg (by omega)]
theorem cqa_back {g : Nat → Int} {n i b : Nat} (h : i < n) (hq : g i = 92) : cqa g n i b = cqa g n (i + 1) (b + 1) := by
  rw [cqa, if_pos h, if_neg (by omega), if_pos hq]
theorem cqa_go {g : Nat → Int} {n i b : Nat} (h : i < n) (hb : ¬ g i = 92) (hq : ¬ g i = 34) : cqa g n i b = cqa g n (i + 1) 0 := by
  rw [cqa, if_pos h, if_neg (by omega), if_neg hb]

/-- The parity automaton and the skipping scanner find the same quote. -/
theorem cqa_eq (g : Nat → Int) (n : Nat) : ∀ (d k bs : Nat), n - k = d → cqa g n k bs = qscan g n (k + bs % 2) := by
  intro d
  induction d with
  | zero =>
    intro k bs h
    rw [cqa_end (by omega), qscan_end (by omega)]
  | succ d ih =>
    intro k bs h
    have hk : k < n := by omega
    by_cases hq : g k = 34
    · by_cases hb : bs % 2 = 0
      · rw [cqa_hit hk hq hb, hb, Nat.add_zero k, qscan_hit hk hq]
      · have h1 : bs % 2 = 1 := by omega
        rw [cqa_odd hk hq h1, ih (k + 1) 0 (by omega), h1]
    · by_cases hb : g k = 92
      · rw [cqa_back hk hb, ih (k + 1) (bs + 1) (by omega)]
        by_cases h0 : bs % 2 = 0
        · rw [show (bs + 1) % 2 = 1 from by omega, h0, Nat.add_zero k, qscan_back hk hb]
        · rw [show (bs + 1) % 2 = 0 from by omega, show bs % 2 = 1 from by omega, Nat.add_zero]
      · rw [cqa_go hk hb hq, ih (k + 1) 0 (by omega)]
        by_cases h0 : bs % 2 = 0
        · rw [h0, Nat.add_zero k, qscan_go hk hb hq]
        · rw [show bs % 2 = 1 from by omega]

/-- quotedLenModel. -/
def qmodel (g : Nat → Int) (n : Nat) : Nat :=
  if g 0 = 34 then (if cqa g n 1 0 = 0 then 1 else cqa g n 1 0) else 1
theorem qmodel_eq (g : Nat → Int) (n : Nat) : qmodel g n = qlen g n := by
  unfold qmodel qlen
  rw [cqa_eq g n (n - 1) 1 0 rfl]

theorem qscan_bd (g : Nat → Int) (n : Nat) : ∀ (d i : Nat), n - i = d → qscan g n i = 0 ∨ (i + 1 ≤ qscan g n i ∧ qscan g n i ≤ n) := by
  intro d
  induction d using Nat.strongRecOn with
  | _ d ih =>
    intro i h
    by_cases hi : i < n
    · by_cases hb : g i = 92
      · rw [qscan_back hi hb]
        have := ih (n - (i + 2)) (by omega) (i + 2) rfl
        omega
      · by_cases hq : g i = 34
        · rw [qscan_hit hi hq]; omega
        · rw [qscan_go hi hb hq]
          have := ih (n - (i + 1)) (by omega) (i + 1) rfl
          omega
    · rw [qscan_end hi]; omega
theorem qlen_bd (g : Nat → Int) (n : Nat) (hn : 1 ≤ n) : 1 ≤ qlen g n ∧ qlen g n ≤ n := by
  unfold qlen
  have := qscan_bd g n (n - 1) 1 rfl
  split
  · split <;> omega
  · omega

/-- What is appended changes no closed text, and closes none inside. -/
theorem qscan_app (g f : Nat → Int) (n m : Nat) (hm : n ≤ m) (hg : ∀ j, j < n → g j = f j) :
    ∀ (d i : Nat), n - i = d → (qscan g n i ≠ 0 → qscan f m i = qscan g n i) ∧ (qscan g n i = 0 → qscan f m i = 0 ∨ n < qscan f m i) := by
  intro d
  induction d using Nat.strongRecOn with
  | _ d ih =>
    intro i h
    by_cases hi : i < n
    · have e := hg i hi
      by_cases hb : g i = 92
      · rw [qscan_back hi hb, qscan_back (g := f) (n := m) (by omega) (by rw [← e]; exact hb)]
        exact ih (n - (i + 2)) (by omega) (i + 2) rfl
      · by_cases hq : g i = 34
        · rw [qscan_hit hi hq, qscan_hit (g := f) (n := m) (by omega) (by rw [← e]; exact hq)]
          omega
        · rw [qscan_go hi hb hq, qscan_go (g := f) (n := m) (by omega) (by rw [← e]; exact hb) (by rw [← e]; exact hq)]
          exact ih (n - (i + 1)) (by omega) (i + 1) rfl
    · rw [qscan_end hi]
      have := qscan_bd f m (m - i) i rfl
      omega
theorem qlen_app (g f : Nat → Int) (n m : Nat) (hn : 1 ≤ n) (hm : n ≤ m) (hg : ∀ j, j < n → g j = f j) :
    (1 < qlen g n → qlen f m = qlen g n) ∧ (¬ 1 < qlen g n → qlen f m = 1 ∨ n < qlen f m) := by
  have e := hg 0 (by omega)
  have h := qscan_app g f n m hm hg (n - 1) 1 rfl
  have hb := qscan_bd g n (n - 1) 1 rfl
  have hc := qscan_bd f m (m - 1) 1 rfl
  unfold qlen
  rw [← e]
  by_cases h0 : g 0 = 34
  · rw [if_pos h0, if_pos h0]
    by_cases h1 : qscan g n 1 = 0
    · rw [if_pos h1]
      by_cases h2 : qscan f m 1 = 0
      · rw [if_pos h2]; omega
      · rw [if_neg h2]; omega
    · rw [if_neg h1]
      have := h.1 h1
      rw [if_neg (by omega)]
      omega
  · rw [if_neg h0, if_neg h0]; omega

/-- stringEnd's first loop (one quote opens): q: the opening byte. -/
def sscan (g : Nat → Int) (n : Nat) (q : Int) (i : Nat) : Nat :=
  if i < n then
    if g i = q then i + 1
    else if g i = 92 ∧ q = 34 then sscan g n q (i + 2)
    else sscan g n q (i + 1)
  else n
theorem sscan_end {g : Nat → Int} {n : Nat} {q : Int} {i : Nat} (h : ¬ i < n) : sscan g n q i = n := by
  rw [sscan, if_neg h]
theorem sscan_hit {g : Nat → Int} {n : Nat} {q : Int} {i : Nat} (h : i < n) (hq : g i = q) : sscan g n q i = i + 1 := by
  rw [sscan, if_pos h, if_pos hq]
theorem sscan_back {g : Nat → Int} {n : Nat} {q : Int} {i : Nat} (h : i < n) (hq : ¬ g i = q) (hb : g i = 92) (h34 : q = 34) : sscan g n q i = sscan g n q (i + 2) := by
  rw [sscan, if_pos h, if_neg hq, if_pos ⟨hb, h34⟩]
theorem sscan_go {g : Nat → Int} {n : Nat} {q : Int} {i : Nat} (h : i < n) (hq : ¬ g i = q) (hb : ¬ (g i = 92 ∧ q = 34)) : sscan g n q i = sscan g n q (i + 1) := by
  rw [sscan, if_pos h, if_neg hq, if_neg hb]

theorem sscan_qscan (g : Nat → Int) (n : Nat) : ∀ (d i : Nat), n - i = d → sscan g n 34 i = if qscan g n i = 0 then n else qscan g n i := by
  intro d
  induction d using Nat.strongRecOn with
  | _ d ih =>
    intro i h
    by_cases hi : i < n
    · by_cases hq : g i = 34
      · rw [sscan_hit hi hq, qscan_hit hi hq, if_neg (by omega)]
      · by_cases hb : g i = 92
        · rw [sscan_back hi hq hb rfl, qscan_back hi hb]
          exact ih (n - (i + 2)) (by omega) (i + 2) rfl
        · rw [sscan_go hi hq (by omega), qscan_go hi hb hq]
          exact ih (n - (i + 1)) (by omega) (i + 1) rfl
    · rw [sscan_end hi, qscan_end hi, if_pos rfl]

theorem sscan_bd (g : Nat → Int) (n : Nat) (q : Int) : ∀ (d i : Nat), n - i = d → sscan g n q i = n ∨ (i + 1 ≤ sscan g n q i ∧ sscan g n q i ≤ n ∧ g (sscan g n q i - 1) = q) := by
  intro d
  induction d using Nat.strongRecOn with
  | _ d ih =>
    intro i h
    by_cases hi : i < n
    · by_cases hq : g i = q
      · rw [sscan_hit hi hq]; exact .inr ⟨by omega, by omega, by simpa using hq⟩
      · by_cases hb : g i = 92 ∧ q = 34
        · rw [sscan_back hi hq hb.1 hb.2]
          rcases ih (n - (i + 2)) (by omega) (i + 2) rfl with h | ⟨h1, h2, h3⟩
          · exact .inl h
          · exact .inr ⟨by omega, h2, h3⟩
        · rw [sscan_go hi hq hb]
          rcases ih (n - (i + 1)) (by omega) (i + 1) rfl with h | ⟨h1, h2, h3⟩
          · exact .inl h
          · exact .inr ⟨by omega, h2, h3⟩
    · rw [sscan_end hi]; exact .inl rfl

/-- How many bytes from i on are q. -/
def cnt (g : Nat → Int) (n : Nat) (q : Int) (i : Nat) : Nat :=
  if i < n then (if g i = q then cnt g n q (i + 1) + 1 else 0) else 0
theorem cnt_end {g : Nat → Int} {n : Nat} {q : Int} {i : Nat} (h : ¬ i < n) : cnt g n q i = 0 := by
  rw [cnt, if_neg h]
theorem cnt_hit {g : Nat → Int} {n : Nat} {q : Int} {i : Nat} (h : i < n) (hq : g i = q) : cnt g n q i = cnt g n q (i + 1) + 1 := by
  rw [cnt, if_pos h, if_pos hq]
theorem cnt_miss {g : Nat → Int} {n : Nat} {q : Int} {i : Nat} (hq : ¬ g i = q) : cnt g n q i = 0 := by
  rw [cnt, if_neg hq, ite_self]
theorem cnt_bd (g : Nat → Int) (n : Nat) (q : Int) : ∀ (d i : Nat), n - i = d → i ≤ n → i + cnt g n q i ≤ n ∧ ∀ j, i ≤ j → j < i + cnt g n q i → g j = q := by
  intro d
  induction d with
  | zero => intro i h hi; rw [cnt_end (by omega)]; exact ⟨by omega, fun j _ _ => by omega⟩
  | succ d ih =>
    intro i h hi
    by_cases hq : g i = q
    · rw [cnt_hit (by omega) hq]
      obtain ⟨h1, h2⟩ := ih (i + 1) (by omega) (by omega)
      refine ⟨by omega, fun j a b => ?_⟩
      by_cases e : j = i
      · rw [e]; exact hq
      · exact h2 j (by omega) (by omega)
    · rw [cnt_miss hq]; exact ⟨by omega, fun j _ _ => by omega⟩

/-- stringEnd's second loop (three quotes open). -/
def mscan (g : Nat → Int) (n : Nat) (q : Int) (i : Nat) : Nat :=
  if i < n then
    if g i = 92 then (if q = 34 then mscan g n q (i + 2) else mscan g n q (i + 1))
    else if g i = q then
      (if 2 ≤ cnt g n q (i + 1) then i + 1 + cnt g n q (i + 1) else mscan g n q (i + 1 + cnt g n q (i + 1)))
    else mscan g n q (i + 1)
  else n
theorem mscan_end {g : Nat → Int} {n : Nat} {q : Int} {i : Nat} (h : ¬ i < n) : mscan g n q i = n := by
  rw [mscan, if_neg h]
theorem mscan_back {g : Nat → Int} {n : Nat} {q : Int} {i : Nat} (h : i < n) (hb : g i = 92) (hq : q = 34) : mscan g n q i = mscan g n q (i + 2) := by
  rw [mscan, if_pos h, if_pos hb, if_pos hq]
theorem mscan_slash {g : Nat → Int} {n : Nat} {q : Int} {i : Nat} (h : i < n) (hb : g i = 92) (hq : ¬ q = 34) : mscan g n q i = mscan g n q (i + 1) := by
  rw [mscan, if_pos h, if_pos hb, if_neg hq]
theorem mscan_hit {g : Nat → Int} {n : Nat} {q : Int} {i : Nat} (h : i < n) (hb : ¬ g i = 92) (hq : g i = q) (hc : 2 ≤ cnt g n q (i + 1)) : mscan g n q i = i + 1 + cnt g n q (i + 1) := by
  rw [mscan, if_pos h, if_neg hb, if_pos hq, if_pos hc]
theorem mscan_short {g : Nat → Int} {n : Nat} {q : Int} {i : Nat} (h : i < n) (hb : ¬ g i = 92) (hq : g i = q) (hc : ¬ 2 ≤ cnt g n q (i + 1)) : mscan g n q i = mscan g n q (i + 1 + cnt g n q (i + 1)) := by
  rw [mscan, if_pos h, if_neg hb, if_pos hq, if_neg hc]
theorem mscan_go {g : Nat → Int} {n : Nat} {q : Int} {i : Nat} (h : i < n) (hb : ¬ g i = 92) (hq : ¬ g i = q) : mscan g n q i = mscan g n q (i + 1) := by
  rw [mscan, if_pos h, if_neg hb, if_neg hq]

theorem mscan_bd (g : Nat → Int) (n : Nat) (q : Int) : ∀ (d i : Nat), n - i = d → mscan g n q i = n ∨ (i + 3 ≤ mscan g n q i ∧ mscan g n q i ≤ n ∧ g (mscan g n q i - 1) = q) := by
  intro d
  induction d using Nat.strongRecOn with
  | _ d ih =>
    intro i h
    have step : ∀ j, i < j → i < n → (mscan g n q j = n ∨ (i + 3 ≤ mscan g n q j ∧ mscan g n q j ≤ n ∧ g (mscan g n q j - 1) = q)) := by
      intro j hj hi
      rcases ih (n - j) (by omega) j rfl with h | ⟨h1, h2, h3⟩
      · exact .inl h
      · exact .inr ⟨by omega, h2, h3⟩
    by_cases hi : i < n
    · by_cases hb : g i = 92
      · by_cases hq : q = 34
        · rw [mscan_back hi hb hq]; exact step _ (by omega) hi
        · rw [mscan_slash hi hb hq]; exact step _ (by omega) hi
      · by_cases hq : g i = q
        · by_cases hc : 2 ≤ cnt g n q (i + 1)
          · rw [mscan_hit hi hb hq hc]
            have hcb := cnt_bd g n q (n - (i + 1)) (i + 1) rfl (by omega)
            exact .inr ⟨by omega, by omega, hcb.2 _ (by omega) (by omega)⟩
          · rw [mscan_short hi hb hq hc]; exact step _ (by omega) hi
        · rw [mscan_go hi hb hq]; exact step _ (by omega) hi
    · rw [mscan_end hi]; exact .inl rfl

/-- Does a triple opening stand at i? -/
def multi (g : Nat → Int) (n i : Nat) : Bool :=
  decide (i + 2 < n) && decide (g (i + 1) = g i) && decide (g (i + 2) = g i)
theorem multi_true {g : Nat → Int} {n i : Nat} (h1 : i + 2 < n) (h2 : g (i + 1) = g i) (h3 : g (i + 2) = g i) : multi g n i = true := by
  simp [multi, h1, h2, h3]
theorem multi_false {g : Nat → Int} {n i : Nat} (h : ¬ (i + 2 < n ∧ g (i + 1) = g i ∧ g (i + 2) = g i)) : multi g n i = false := by
  cases hm : multi g n i with
  | false => rfl
  | true => simp [multi] at hm; exact absurd ⟨hm.1.1, hm.1.2, hm.2⟩ h
theorem of_multi_true {g : Nat → Int} {n i : Nat} (hm : multi g n i = true) : i + 2 < n ∧ g (i + 1) = g i ∧ g (i + 2) = g i := by
  simp [multi] at hm; exact ⟨hm.1.1, hm.1.2, hm.2⟩
theorem of_multi_false {g : Nat → Int} {n i : Nat} (hm : multi g n i = false) : ¬ (i + 2 < n ∧ g (i + 1) = g i ∧ g (i + 2) = g i) := by
  intro ⟨h1, h2, h3⟩; rw [multi_true h1 h2 h3] at hm; cases hm

/-- stringEnd. -/
def send (g : Nat → Int) (n i : Nat) : Nat :=
  if multi g n i = true then mscan g n (g i) (i + 3) else sscan g n (g i) (i + 1)
theorem send_multi {g : Nat → Int} {n i : Nat} (h : multi g n i = true) : send g n i = mscan g n (g i) (i + 3) := by
  rw [send, if_pos h]
theorem send_single {g : Nat → Int} {n i : Nat} (h : multi g n i = false) : send g n i = sscan g n (g i) (i + 1) := by
  rw [send, if_neg (by simp [h])]
theorem send_bd (g : Nat → Int) (n i : Nat) (hi : i < n) : i + 1 ≤ send g n i ∧ send g n i ≤ n ∧ (send g n i < n → g (send g n i - 1) = g i ∧ (if multi g n i = true then i + 6 ≤ send g n i else i + 2 ≤ send g n i)) := by
  cases hm : multi g n i with
  | true =>
    rw [send_multi hm]
    have := of_multi_true hm
    rcases mscan_bd g n (g i) (n - (i + 3)) (i + 3) rfl with h | ⟨h1, h2, h3⟩
    · exact ⟨by omega, by omega, fun h' => by omega⟩
    · exact ⟨by omega, by omega, fun h' => ⟨h3, by simp; omega⟩⟩
  | false =>
    rw [send_single hm]
    rcases sscan_bd g n (g i) (n - (i + 1)) (i + 1) rfl with h | ⟨h1, h2, h3⟩
    · exact ⟨by omega, by omega, fun h' => by omega⟩
    · exact ⟨by omega, by omega, fun h' => ⟨h3, by simp; omega⟩⟩

/-- quotedLen and stringEnd at 0 agree where no triple opens. -/
theorem send_qlen (g : Nat → Int) (n : Nat) (h0 : g 0 = 34) (hm : multi g n 0 = false) : send g n 0 = if 1 < qlen g n then qlen g n else n := by
  rw [send_single hm, h0, Nat.zero_add, sscan_qscan g n (n - 1) 1 rfl]
  unfold qlen
  rw [if_pos h0]
  have := qscan_bd g n (n - 1) 1 rfl
  by_cases h1 : qscan g n 1 = 0
  · simp [h1]
  · rw [if_neg h1, if_neg h1, if_pos (by omega)]

/-- stringEndModel's loop at a single opening. -/
def smod (g : Nat → Int) (n : Nat) (q : Int) (j bs : Nat) : Nat :=
  if j < n then
    if g j = q then (if bs % 2 = 0 then j + 1 else smod g n q (j + 1) 0)
    else smod g n q (j + 1) (if q = 34 ∧ g j = 92 then bs + 1 else 0)
  else n
theorem smod_end {g : Nat → Int} {n : Nat} {q : Int} {j b : Nat} (h : ¬ j < n) : smod g n q j b = n := by
  rw [smod, if_neg h]
theorem smod_hit {g : Nat → Int} {n : Nat} {q : Int} {j b : Nat} (h : j < n) (hq : g j = q) (hb : b % 2 = 0) : smod g n q j b = j + 1 := by
  rw [smod, if_pos h, if_pos hq, if_pos hb]
theorem smod_odd {g : Nat → Int} {n : Nat} {q : Int} {j b : Nat} (h : j < n) (hq : g j = q) (hb : ¬ b % 2 = 0) : smod g n q j b = smod g n q (j + 1) 0 := by
  rw [smod, if_pos h, if_pos hq, if_neg hb]
theorem smod_back {g : Nat → Int} {n : Nat} {q : Int} {j b : Nat} (h : j < n) (hq : ¬ g j = q) (h34 : q = 34) (hb : g j = 92) : smod g n q j b = smod g n q (j + 1) (b + 1) := by
  rw [smod, if_pos h, if_neg hq, if_pos ⟨h34, hb⟩]
theorem smod_go {g : Nat → Int} {n : Nat} {q : Int} {j b : Nat} (h : j < n) (hq : ¬ g j = q) (hb : ¬ (q = 34 ∧ g j = 92)) : smod g n q j b = smod g n q (j + 1) 0 := by
  rw [smod, if_pos h, if_neg hq, if_neg hb]

theorem smod_eq (g : Nat → Int) (n : Nat) (q : Int) : ∀ (d j bs : Nat), n - j = d → (¬ q = 34 → bs = 0) → smod g n q j bs = sscan g n q (j + bs % 2) := by
  intro d
  induction d with
  | zero => intro j bs h _; rw [smod_end (by omega), sscan_end (by omega)]
  | succ d ih =>
    intro j bs h hbs
    have hj : j < n := by omega
    by_cases hq : g j = q
    · by_cases hb : bs % 2 = 0
      · rw [smod_hit hj hq hb, hb, Nat.add_zero j, sscan_hit hj hq]
      · rw [smod_odd hj hq hb, ih (j + 1) 0 (by omega) (fun _ => rfl), show bs % 2 = 1 from by omega]
    · by_cases hb : q = 34 ∧ g j = 92
      · rw [smod_back hj hq hb.1 hb.2, ih (j + 1) (bs + 1) (by omega) (fun h => absurd hb.1 h)]
        by_cases h0 : bs % 2 = 0
        · rw [show (bs + 1) % 2 = 1 from by omega, h0, Nat.add_zero j, sscan_back hj hq hb.2 hb.1]
        · rw [show (bs + 1) % 2 = 0 from by omega, show bs % 2 = 1 from by omega, Nat.add_zero]
      · rw [smod_go hj hq hb, ih (j + 1) 0 (by omega) (fun _ => rfl)]
        by_cases h0 : bs % 2 = 0
        · rw [h0, Nat.add_zero j, sscan_go hj hq (fun h => hb ⟨h.2, h.1⟩)]
        · rw [show bs % 2 = 1 from by omega]

/-- stringEndModel's loop at a triple opening: run: the run of quotes so far. -/
def mmod (g : Nat → Int) (n : Nat) (q : Int) (j bs run : Nat) : Nat :=
  if j < n then
    if g j = q then
      (if 2 ≤ run then j + 1 + cnt g n q (j + 1)
       else if 1 ≤ run then mmod g n q (j + 1) 0 (run + 1)
       else if bs % 2 = 0 then mmod g n q (j + 1) 0 1
       else mmod g n q (j + 1) 0 0)
    else mmod g n q (j + 1) (if q = 34 ∧ g j = 92 then bs + 1 else 0) 0
  else n
theorem mmod_end {g : Nat → Int} {n : Nat} {q : Int} {j b r : Nat} (h : ¬ j < n) : mmod g n q j b r = n := by
  rw [mmod, if_neg h]
theorem mmod_hit {g : Nat → Int} {n : Nat} {q : Int} {j b r : Nat} (h : j < n) (hq : g j = q) (hr : 2 ≤ r) : mmod g n q j b r = j + 1 + cnt g n q (j + 1) := by
  rw [mmod, if_pos h, if_pos hq, if_pos hr]
theorem mmod_more {g : Nat → Int} {n : Nat} {q : Int} {j b r : Nat} (h : j < n) (hq : g j = q) (hr : 1 ≤ r) (hr2 : r < 2) : mmod g n q j b r = mmod g n q (j + 1) 0 (r + 1) := by
  rw [mmod, if_pos h, if_pos hq, if_neg (by omega), if_pos hr]
theorem mmod_first {g : Nat → Int} {n : Nat} {q : Int} {j b r : Nat} (h : j < n) (hq : g j = q) (hr : r = 0) (hb : b % 2 = 0) : mmod g n q j b r = mmod g n q (j + 1) 0 1 := by
  rw [mmod, if_pos h, if_pos hq, if_neg (by omega), if_neg (by omega), if_pos hb]
theorem mmod_odd {g : Nat → Int} {n : Nat} {q : Int} {j b r : Nat} (h : j < n) (hq : g j = q) (hr : r = 0) (hb : ¬ b % 2 = 0) : mmod g n q j b r = mmod g n q (j + 1) 0 0 := by
  rw [mmod, if_pos h, if_pos hq, if_neg (by omega), if_neg (by omega), if_neg hb]
theorem mmod_back {g : Nat → Int} {n : Nat} {q : Int} {j b r : Nat} (h : j < n) (hq : ¬ g j = q) (h34 : q = 34) (hb : g j = 92) : mmod g n q j b r = mmod g n q (j + 1) (b + 1) 0 := by
  rw [mmod, if_pos h, if_neg hq, if_pos ⟨h34, hb⟩]
theorem mmod_go {g : Nat → Int} {n : Nat} {q : Int} {j b r : Nat} (h : j < n) (hq : ¬ g j = q) (hb : ¬ (q = 34 ∧ g j = 92)) : mmod g n q j b r = mmod g n q (j + 1) 0 0 := by
  rw [mmod, if_pos h, if_neg hq, if_neg hb]
/-- At no quote, the run so far is of no account. -/
theorem mmod_run {g : Nat → Int} {n : Nat} {q : Int} {j b r : Nat} (hq : ¬ (j < n ∧ g j = q)) : mmod g n q j b r = mmod g n q j b 0 := by
  by_cases h : j < n
  · have hq' : ¬ g j = q := fun e => hq ⟨h, e⟩
    by_cases hb : q = 34 ∧ g j = 92
    · rw [mmod_back h hq' hb.1 hb.2, mmod_back h hq' hb.1 hb.2]
    · rw [mmod_go h hq' hb, mmod_go h hq' hb]
  · rw [mmod_end h, mmod_end h]

theorem mmod_eq (g : Nat → Int) (n : Nat) (q : Int) (hq92 : ¬ q = 92) : ∀ (d j bs : Nat), n - j = d → (¬ q = 34 → bs = 0) → mmod g n q j bs 0 = mscan g n q (j + bs % 2) := by
  intro d
  induction d using Nat.strongRecOn with
  | _ d ih =>
    intro j bs h hbs
    by_cases hj : j < n
    · by_cases hq : g j = q
      · have h92 : ¬ g j = 92 := fun e => hq92 (hq.symm.trans e)
        by_cases hb : bs % 2 = 0
        · rw [mmod_first hj hq rfl hb, hb, Nat.add_zero j]
          by_cases h1 : j + 1 < n ∧ g (j + 1) = q
          · rw [mmod_more h1.1 h1.2 (by omega) (by omega)]
            have c1 := cnt_hit h1.1 h1.2
            by_cases h2 : j + 1 + 1 < n ∧ g (j + 1 + 1) = q
            · have c2 := cnt_hit h2.1 h2.2
              rw [mmod_hit h2.1 h2.2 (by omega), mscan_hit hj h92 hq (by omega)]
              omega
            · have c2 : cnt g n q (j + 1 + 1) = 0 := by
                by_cases hl : j + 1 + 1 < n
                · exact cnt_miss (fun e => h2 ⟨hl, e⟩)
                · exact cnt_end hl
              rw [mmod_run h2, ih (n - (j + 1 + 1)) (by omega) (j + 1 + 1) 0 rfl (fun _ => rfl), mscan_short hj h92 hq (by omega), c1, c2]
          · have c1 : cnt g n q (j + 1) = 0 := by
              by_cases hl : j + 1 < n
              · exact cnt_miss (fun e => h1 ⟨hl, e⟩)
              · exact cnt_end hl
            rw [mmod_run h1, ih (n - (j + 1)) (by omega) (j + 1) 0 rfl (fun _ => rfl), mscan_short hj h92 hq (by omega), c1]
        · rw [mmod_odd hj hq rfl hb, ih (n - (j + 1)) (by omega) (j + 1) 0 rfl (fun _ => rfl), show bs % 2 = 1 from by omega]
      · by_cases hb : q = 34 ∧ g j = 92
        · rw [mmod_back hj hq hb.1 hb.2, ih (n - (j + 1)) (by omega) (j + 1) (bs + 1) rfl (fun h => absurd hb.1 h)]
          by_cases h0 : bs % 2 = 0
          · rw [show (bs + 1) % 2 = 1 from by omega, h0, Nat.add_zero j, mscan_back hj hb.2 hb.1]
          · rw [show (bs + 1) % 2 = 0 from by omega, show bs % 2 = 1 from by omega, Nat.add_zero]
        · rw [mmod_go hj hq hb, ih (n - (j + 1)) (by omega) (j + 1) 0 rfl (fun _ => rfl)]
          by_cases h0 : bs % 2 = 0
          · rw [h0, Nat.add_zero j]
            by_cases h92 : g j = 92
            · rw [mscan_slash hj h92 (fun e => hb ⟨e, h92⟩)]
            · rw [mscan_go hj h92 hq]
          · rw [show bs % 2 = 1 from by omega]
    · rw [mmod_end hj, mscan_end (by omega)]

/-- stringEndModel. -/
def smodel (g : Nat → Int) (n i : Nat) : Nat :=
  if multi g n i = true then mmod g n (g i) (i + 3) 0 0 else smod g n (g i) (i + 1) 0
theorem smodel_eq (g : Nat → Int) (n i : Nat) (h92 : ¬ g i = 92) : smodel g n i = send g n i := by
  unfold smodel send
  rw [mmod_eq g n (g i) h92 _ (i + 3) 0 rfl (fun _ => rfl), smod_eq g n (g i) _ (i + 1) 0 rfl (fun _ => rfl)]
end Go.Proofs.Qxb6602355a.Plain
