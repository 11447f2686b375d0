/-
  THE PLAIN LAW OF 'isNumber': its scan accepts what the automaton accepts. No Go text in sight.
-/
namespace Go.Proofs.Qxb6000403a.Num

def dig (c : Int) : Bool := decide (48 ≤ c ∧ c ≤ 57)
theorem dig_t {c : Int} (h : dig c = true) : 48 ≤ c ∧ c ≤ 57 := of_decide_eq_true h
theorem dig_f {c : Int} (h : dig c = false) : ¬ (48 ≤ c ∧ c ≤ 57) := of_decide_eq_false h
theorem dig_mk {c : Int} (h : 48 ≤ c ∧ c ≤ 57) : dig c = true := decide_eq_true h
theorem dig_no {c : Int} (h : ¬ (48 ≤ c ∧ c ≤ 57)) : dig c = false := decide_eq_false h

/-- r bytes are left from i on: where the run of digits ends. -/
def de (f : Nat → Int) : Nat → Nat → Nat
  | 0, i => i
  | r + 1, i => if dig (f i) = true then de f r (i + 1) else i
def D (f : Nat → Int) (n i : Nat) : Nat := de f (n - i) i

/-- The automaton's nstep. -/
def nstep (s c : Int) : Int :=
  if s = 0 then (if c = 45 then 1 else if c = 48 then 2 else if 49 ≤ c ∧ c ≤ 57 then 3 else -1)
  else if s = 1 then (if c = 48 then 2 else if 49 ≤ c ∧ c ≤ 57 then 3 else -1)
  else if s = 2 then (if c = 46 then 4 else if c = 101 ∨ c = 69 then 6 else -1)
  else if s = 3 then (if dig c = true then 3 else if c = 46 then 4 else if c = 101 ∨ c = 69 then 6 else -1)
  else if s = 4 then (if dig c = true then 5 else -1)
  else if s = 5 then (if dig c = true then 5 else if c = 101 ∨ c = 69 then 6 else -1)
  else if s = 6 then (if c = 43 ∨ c = 45 then 7 else if dig c = true then 8 else -1)
  else if s = 7 ∨ s = 8 then (if dig c = true then 8 else -1)
  else -1

def fin (s : Int) : Bool := decide (s = 2 ∨ s = 3 ∨ s = 5 ∨ s = 8)

/-- Does the automaton accept the r bytes that are left from i on? -/
def acc (f : Nat → Int) (s : Int) : Nat → Nat → Bool
  | 0, _ => fin s
  | r + 1, i => if nstep s (f i) < 0 then false else acc f (nstep s (f i)) r (i + 1)
def A (f : Nat → Int) (n : Nat) (s : Int) (i : Nat) : Bool := acc f s (n - i) i

section
variable {f : Nat → Int} {n i : Nat}

theorem de_le : ∀ r i, i ≤ de f r i ∧ de f r i ≤ i + r
  | 0, i => by unfold de; omega
  | r + 1, i => by unfold de; have := de_le r (i + 1); split <;> omega
theorem D_ge (f : Nat → Int) (n i : Nat) : i ≤ D f n i := (de_le (f := f) (n - i) i).1
theorem D_le (h : i ≤ n) : D f n i ≤ n := by have := (de_le (f := f) (n - i) i).2; unfold D; omega
theorem D_end (h : ¬ i < n) : D f n i = i := by unfold D; rw [show n - i = 0 by omega]; rfl
theorem D_dig (h : i < n) (hd : dig (f i) = true) : D f n i = D f n (i + 1) := by
  unfold D; rw [show n - i = (n - (i + 1)) + 1 by omega]; show (if dig (f i) = true then _ else _) = _; rw [if_pos hd]
theorem D_not (hd : dig (f i) = false) : D f n i = i := by
  by_cases h : i < n
  · unfold D; rw [show n - i = (n - (i + 1)) + 1 by omega]; show (if dig (f i) = true then _ else _) = _; rw [hd]; rfl
  · exact D_end h
theorem D_lt (h : i < n) (hd : dig (f i) = true) : i < D f n i := by rw [D_dig h hd]; have := D_ge f n (i + 1); omega

theorem A_end (s : Int) (h : ¬ i < n) : A f n s i = fin s := by unfold A; rw [show n - i = 0 by omega]; rfl
theorem A_step (s : Int) (h : i < n) : A f n s i = if nstep s (f i) < 0 then false else A f n (nstep s (f i)) (i + 1) := by
  unfold A; rw [show n - i = (n - (i + 1)) + 1 by omega]; rfl
theorem A_to {s t : Int} (h : i < n) (e : nstep s (f i) = t) (ht : 0 ≤ t) : A f n s i = A f n t (i + 1) := by
  rw [A_step s h, e, if_neg (by omega)]
theorem A_no {s : Int} (h : i < n) (e : nstep s (f i) = -1) : A f n s i = false := by
  rw [A_step s h, e, if_pos (by omega)]

/-- Behind the run of digits stands none. -/
theorem D_stop (f : Nat → Int) (n : Nat) : ∀ r i, n - i = r → D f n i < n → dig (f (D f n i)) = false
  | 0, i, h, hl => by have := D_ge f n i; omega
  | r + 1, i, h, hl => by
    by_cases hd : dig (f i) = true
    · rw [D_dig (by omega) hd] at hl ⊢; exact D_stop f n r (i + 1) (by omega) hl
    · have hd' : dig (f i) = false := by simpa using hd
      rw [D_not hd']; exact hd'

theorem s3_dig {c : Int} (h : dig c = true) : nstep 3 c = 3 := by unfold nstep; simp [h]
theorem s5_dig {c : Int} (h : dig c = true) : nstep 5 c = 5 := by unfold nstep; simp [h]
theorem s8_dig {c : Int} (h : dig c = true) : nstep 8 c = 8 := by unfold nstep; simp [h]

/-- A state that stays among digits. -/
theorem A_skip (s : Int) (hs : ∀ c, dig c = true → nstep s c = s) (h0 : 0 ≤ s) : ∀ r i, n - i = r → A f n s i = A f n s (D f n i)
  | 0, i, h => by rw [D_end (by omega)]
  | r + 1, i, h => by
    by_cases hd : dig (f i) = true
    · rw [A_to (by omega) (hs _ hd) h0, D_dig (by omega) hd]; exact A_skip s hs h0 r (i + 1) (by omega)
    · have hd' : dig (f i) = false := by simpa using hd
      rw [D_not hd']

theorem A8 : A f n 8 i = decide (¬ D f n i < n) := by
  rw [A_skip 8 (fun c h => s8_dig h) (by omega) _ i rfl]
  by_cases h : D f n i < n
  · have hd := D_stop f n _ i rfl h
    rw [A_no h (by unfold nstep; simp [hd])]; simp [h]
  · rw [A_end _ h]; simp [h, fin]

/-- Digits must follow, to the end. -/
def must (f : Nat → Int) (n i : Nat) : Bool := decide (i < D f n i ∧ ¬ D f n i < n)

theorem A7 : A f n 7 i = must f n i := by
  unfold must
  by_cases h : i < n
  · by_cases hd : dig (f i) = true
    · rw [A_to h (t := 8) (by unfold nstep; simp [hd]) (by omega), A8, ← D_dig h hd]
      have := D_lt h hd
      simp [this]
    · have hd' : dig (f i) = false := by simpa using hd
      rw [A_no h (by unfold nstep; simp [hd']), D_not hd']; simp
  · rw [A_end _ h, D_end h]; simp [fin]

/-- Behind the exponent's mark. -/
def expo (f : Nat → Int) (n k : Nat) : Bool := if k < n ∧ (f k = 43 ∨ f k = 45) then must f n (k + 1) else must f n k

theorem A6 : A f n 6 i = expo f n i := by
  unfold expo
  by_cases h : i < n
  · by_cases hs : f i = 43 ∨ f i = 45
    · rw [if_pos ⟨h, hs⟩, A_to h (t := 7) (by unfold nstep; simp [hs]) (by omega), A7]
    · rw [if_neg (fun x => hs x.2)]
      unfold must
      by_cases hd : dig (f i) = true
      · rw [A_to h (t := 8) (by unfold nstep; simp [hs, hd]) (by omega), A8, ← D_dig h hd]
        have := D_lt h hd
        simp [this]
      · have hd' : dig (f i) = false := by simpa using hd
        rw [A_no h (by unfold nstep; simp [hs, hd']), D_not hd']; simp
  · rw [if_neg (fun x => h x.1), A_end _ h]; unfold must; rw [D_end h]; simp [fin]

/-- Behind integer and fraction. -/
def tailE (f : Nat → Int) (n i : Nat) : Bool := if i < n ∧ (f i = 101 ∨ f i = 69) then expo f n (i + 1) else decide (¬ i < n)

theorem A5 : A f n 5 i = tailE f n (D f n i) := by
  rw [A_skip 5 (fun c h => s5_dig h) (by omega) _ i rfl]
  unfold tailE
  by_cases h : D f n i < n
  · have hd := D_stop f n _ i rfl h
    by_cases he : f (D f n i) = 101 ∨ f (D f n i) = 69
    · rw [if_pos ⟨h, he⟩, A_to h (t := 6) (by unfold nstep; simp [hd, he]) (by omega), A6]
    · rw [if_neg (fun x => he x.2), A_no h (by unfold nstep; simp [hd, he])]; simp [h]
  · rw [if_neg (fun x => h x.1), A_end _ h]; simp [h, fin]

theorem A4 : A f n 4 i = (decide (i < D f n i) && tailE f n (D f n i)) := by
  by_cases h : i < n
  · by_cases hd : dig (f i) = true
    · rw [A_to h (t := 5) (by unfold nstep; simp [hd]) (by omega), A5, ← D_dig h hd]
      have := D_lt h hd
      simp [this]
    · have hd' : dig (f i) = false := by simpa using hd
      rw [A_no h (by unfold nstep; simp [hd']), D_not hd']; simp
  · rw [A_end _ h, D_end h]; simp [fin]

/-- Behind the integer. -/
def frac (f : Nat → Int) (n i : Nat) : Bool := if i < n ∧ f i = 46 then (decide (i + 1 < D f n (i + 1)) && tailE f n (D f n (i + 1))) else tailE f n i

theorem A2 : A f n 2 i = frac f n i := by
  unfold frac
  by_cases h : i < n
  · by_cases hp : f i = 46
    · rw [if_pos ⟨h, hp⟩, A_to h (t := 4) (by unfold nstep; simp [hp]) (by omega), A4]
    · rw [if_neg (fun x => hp x.2)]
      unfold tailE
      by_cases he : f i = 101 ∨ f i = 69
      · rw [if_pos ⟨h, he⟩, A_to h (t := 6) (by unfold nstep; simp [hp, he]) (by omega), A6]
      · rw [if_neg (fun x => he x.2), A_no h (by unfold nstep; simp [hp, he])]; simp [h]
  · rw [if_neg (fun x => h x.1), A_end _ h]; unfold tailE; rw [if_neg (fun x => h x.1)]; simp [h, fin]

theorem A3 : A f n 3 i = frac f n (D f n i) := by
  rw [A_skip 3 (fun c h => s3_dig h) (by omega) _ i rfl]
  unfold frac
  by_cases h : D f n i < n
  · have hd := D_stop f n _ i rfl h
    by_cases hp : f (D f n i) = 46
    · rw [if_pos ⟨h, hp⟩, A_to h (t := 4) (by unfold nstep; rw [hp]; decide) (by omega), A4]
    · rw [if_neg (fun x => hp x.2)]
      unfold tailE
      by_cases he : f (D f n i) = 101 ∨ f (D f n i) = 69
      · rw [if_pos ⟨h, he⟩, A_to h (t := 6) (by unfold nstep; simp [hd, hp, he]) (by omega), A6]
      · rw [if_neg (fun x => he x.2), A_no h (by unfold nstep; simp [hd, hp, he])]; simp [h]
  · rw [if_neg (fun x => h x.1), A_end _ h]; unfold tailE; rw [if_neg (fun x => h x.1)]; simp [h, fin]

/-- Behind the sign. -/
def int1 (f : Nat → Int) (n i : Nat) : Bool := if i < n ∧ f i = 48 then frac f n (i + 1) else (decide (i < D f n i) && frac f n (D f n i))

theorem A1 : A f n 1 i = int1 f n i := by
  unfold int1
  by_cases h : i < n
  · by_cases hz : f i = 48
    · rw [if_pos ⟨h, hz⟩, A_to h (t := 2) (by unfold nstep; simp [hz]) (by omega), A2]
    · rw [if_neg (fun x => hz x.2)]
      by_cases hd : dig (f i) = true
      · have hd2 := dig_t hd
        have h3 : 49 ≤ f i ∧ f i ≤ 57 := by omega
        rw [A_to h (t := 3) (by unfold nstep; simp [hz, h3]) (by omega), A3, ← D_dig h hd]
        have := D_lt h hd
        simp [this]
      · have hd' : dig (f i) = false := by simpa using hd
        have h3 : ¬ (49 ≤ f i ∧ f i ≤ 57) := fun x => dig_f hd' ⟨by omega, x.2⟩
        rw [A_no h (by unfold nstep; rw [if_neg (by omega), if_pos rfl, if_neg hz, if_neg h3]), D_not hd']; simp
  · rw [if_neg (fun x => h x.1), A_end _ h, D_end h]; simp [fin]

/-- A number. -/
def num (f : Nat → Int) (n : Nat) : Bool := if 0 < n ∧ f 0 = 45 then int1 f n 1 else int1 f n 0

theorem A0 : A f n 0 0 = num f n := by
  unfold num
  by_cases h : 0 < n
  · by_cases hm : f 0 = 45
    · rw [if_pos ⟨h, hm⟩, A_to h (t := 1) (by unfold nstep; simp [hm]) (by omega), A1]
    · rw [if_neg (fun x => hm x.2), ← A1, A_step _ h, A_step _ h]
      have : nstep 0 (f 0) = nstep 1 (f 0) := by unfold nstep; simp [hm]
      rw [this]
  · rw [if_neg (fun x => h x.1), ← A1, A_end _ h, A_end _ h]; decide

theorem step_bd (s c : Int) : -1 ≤ nstep s c ∧ nstep s c ≤ 8 := by
  unfold nstep
  repeat' split
  all_goals omega
end
end Go.Proofs.Qxb6000403a.Num
