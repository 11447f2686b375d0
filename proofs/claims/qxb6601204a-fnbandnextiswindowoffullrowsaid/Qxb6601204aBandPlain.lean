namespace Go.Proofs.Qxb6601204a.Band

/-- One cell of the edit-distance table's new row. -/
def edStep (pr : Nat → Int) (k : Int) (c : Nat → Int) : Nat → Int
  | 0 => k
  | j + 1 => min (min (pr (j + 1) + 1) (edStep pr k c j + 1)) (pr j + c j)

/-- The edit-distance table: row k, cell j, of the first k of p and the first j of q. -/
def ed (p q : Nat → Int) : Nat → Nat → Int
  | 0 => fun j => j
  | k + 1 => edStep (ed p q k) (k + 1) (fun j => if q j = p k then 0 else 1)

/-- One cell of the band's new row. -/
def nxStep (b : Nat → Int) (r k : Int) (q : Nat → Int) (len : Int) (t : Nat) (left : Int) : Int :=
  if k - 2 + t < 0 ∨ len < k - 2 + t then 3
  else if 0 < k - 2 + t then
    min (if 0 < t then min (if t + 1 < 5 then min 3 (b (t + 1) + 1) else 3) (left + 1) else (if t + 1 < 5 then min 3 (b (t + 1) + 1) else 3))
      (b t + (if q ((k - 2 + t).toNat - 1) = r then 0 else 1))
  else (if 0 < t then min (if t + 1 < 5 then min 3 (b (t + 1) + 1) else 3) (left + 1) else (if t + 1 < 5 then min 3 (b (t + 1) + 1) else 3))

def nx (b : Nat → Int) (r k : Int) (q : Nat → Int) (len : Int) : Nat → Int
  | 0 => nxStep b r k q len 0 0
  | t + 1 => nxStep b r k q len (t + 1) (nx b r k q len t)

theorem nx_pos (b : Nat → Int) (r k : Int) (q : Nat → Int) (len : Int) (t : Nat) (h : 0 < t) : nx b r k q len t = nxStep b r k q len t (nx b r k q len (t - 1)) := by
  cases t with
  | zero => omega
  | succ t => rfl

theorem ite_min (a c : Int) : (if a < c then a else c) = min c a := by split <;> omega

/-- The cell out of its three parts. -/
theorem nx_close {b : Nat → Int} {r k : Int} {q : Nat → Int} {len : Int} {t : Nat} (hr : ¬ k - 2 + t < 0) (hr2 : ¬ len < k - 2 + t) {X1 X2 X3 : Int}
    (h1 : X1 = if t + 1 < 5 then min 3 (b (t + 1) + 1) else 3) (h2 : X2 = if 0 < t then min X1 (nx b r k q len (t - 1) + 1) else X1)
    (h3 : X3 = if 0 < k - 2 + t then min X2 (b t + if q ((k - 2 + t).toNat - 1) = r then 0 else 1) else X2) : X3 = nx b r k q len t := by
  by_cases h0 : 0 < t
  · rw [nx_pos _ _ _ _ _ _ h0, nxStep, if_neg (by omega), if_pos h0, ← h1]
    rw [if_pos h0] at h2
    rw [← h2]; exact h3
  · obtain rfl : t = 0 := by omega
    rw [if_neg h0] at h2
    show X3 = nxStep b r k q len 0 0
    rw [nxStep, if_neg (by omega), if_neg h0, ← h1, ← h2]; exact h3

theorem nx_out {b : Nat → Int} {r k : Int} {q : Nat → Int} {len : Int} {t : Nat} (h : k - 2 + t < 0 ∨ len < k - 2 + t) : nx b r k q len t = 3 := by
  cases t with
  | zero => show nxStep b r k q len 0 0 = 3; rw [nxStep, if_pos h]
  | succ t => show nxStep b r k q len (t + 1) _ = 3; rw [nxStep, if_pos h]

theorem nx_bd (b : Nat → Int) (r k : Int) (q : Nat → Int) (len : Int) (hb : ∀ s, s < 5 → -128 ≤ b s ∧ b s ≤ 3) : ∀ t, t < 5 → -128 ≤ nx b r k q len t ∧ nx b r k q len t ≤ 3
  | 0, _ => by
    have h0 := hb 0 (by omega); have h1 := hb (0 + 1) (by omega)
    show -128 ≤ nxStep b r k q len 0 0 ∧ nxStep b r k q len 0 0 ≤ 3
    unfold nxStep
    repeat' split
    all_goals omega
  | t + 1, h => by
    have ih := nx_bd b r k q len hb t (by omega)
    have h0 := hb (t + 1) h
    show -128 ≤ nxStep b r k q len (t + 1) (nx b r k q len t) ∧ nxStep b r k q len (t + 1) (nx b r k q len t) ≤ 3
    by_cases h5 : t + 1 + 1 < 5
    · have h1 := hb (t + 1 + 1) h5
      unfold nxStep
      repeat' split
      all_goals omega
    · unfold nxStep
      repeat' split
      all_goals omega

/-- What the band's cell t holds behind k characters. -/
def bc (p q : Nat → Int) (len : Nat) (k t : Nat) : Int :=
  if (k : Int) - 2 + t < 0 then 3 else if 0 < k ∧ (len : Int) < k - 2 + t then 3 else min (ed p q k (k + t - 2)) 3

theorem ed_zero (p q : Nat → Int) (j : Nat) : ed p q 0 j = j := rfl
theorem ed_left (p q : Nat → Int) (k : Nat) : ed p q (k + 1) 0 = k + 1 := rfl
theorem ed_succ (p q : Nat → Int) (k j : Nat) : ed p q (k + 1) (j + 1) = min (min (ed p q k (j + 1) + 1) (ed p q (k + 1) j + 1)) (ed p q k j + if q j = p k then 0 else 1) := rfl

theorem ed_lo (p q : Nat → Int) (k : Nat) : ∀ j : Nat, (k : Int) - j ≤ ed p q k j ∧ (j : Int) - k ≤ ed p q k j := by
  induction k with
  | zero => intro j; rw [ed_zero]; omega
  | succ k ih =>
    intro j
    induction j with
    | zero => rw [ed_left]; omega
    | succ j ihj =>
      rw [ed_succ]
      have h1 := ih (j + 1)
      have h2 := ih j
      split <;> omega

theorem ed_hi (p q : Nat → Int) (k : Nat) : ∀ j : Nat, ed p q k j ≤ k + j := by
  induction k with
  | zero => intro j; rw [ed_zero]; omega
  | succ k ih =>
    intro j
    cases j with
    | zero => rw [ed_left]; omega
    | succ j =>
      rw [ed_succ]
      have h1 := ih (j + 1)
      omega

theorem bc_hi (p q : Nat → Int) (len k t : Nat) : bc p q len k t ≤ 3 := by
  unfold bc; split
  · omega
  · split <;> omega

theorem bc_lo (p q : Nat → Int) (len k t : Nat) : 0 ≤ bc p q len k t := by
  unfold bc
  have := ed_lo p q k (k + t - 2)
  split
  · omega
  · split <;> omega

theorem bc_step (p q : Nat → Int) (len k t : Nat) (left : Int) (ht : t < 5) (hl : 0 < t → left = bc p q len (k + 1) (t - 1)) :
    nxStep (bc p q len k) (p k) ((k + 1 : Nat) : Int) q len t left = bc p q len (k + 1) t := by
  unfold nxStep
  by_cases h1 : (((k + 1 : Nat) : Int) - 2 + t < 0 ∨ (len : Int) < ((k + 1 : Nat) : Int) - 2 + t)
  · rw [if_pos h1]
    unfold bc
    rcases h1 with h1 | h1
    · rw [if_pos h1]
    · by_cases h2 : ((k + 1 : Nat) : Int) - 2 + t < 0
      · rw [if_pos h2]
      · rw [if_neg h2, if_pos ⟨by omega, h1⟩]
  · rw [if_neg h1]
    have hb : bc p q len (k + 1) t = min (ed p q (k + 1) (k + 1 + t - 2)) 3 := by
      unfold bc; rw [if_neg (by omega), if_neg (by omega)]
    rw [hb]
    -- the cell above
    have hdel : (if t + 1 < 5 then min 3 (bc p q len k (t + 1) + 1) else 3) = min 3 (min (ed p q k (k + 1 + t - 2)) 3 + 1) := by
      split
      · have : bc p q len k (t + 1) = min (ed p q k (k + 1 + t - 2)) 3 := by
          unfold bc; rw [if_neg (by omega), if_neg (by omega)]; congr 2; omega
        rw [this]
      · have := ed_lo p q k (k + 1 + t - 2)
        omega
    rw [hdel]
    by_cases h2 : 0 < ((k + 1 : Nat) : Int) - 2 + t
    · rw [if_pos h2]
      obtain ⟨j, hj⟩ : ∃ j, k + 1 + t - 2 = j + 1 := ⟨k + t - 2, by omega⟩
      have hrep : bc p q len k t = min (ed p q k j) 3 := by
        unfold bc; rw [if_neg (by omega), if_neg (by omega)]; congr 2; omega
      have hjj : (((k + 1 : Nat) : Int) - 2 + t).toNat - 1 = j := by omega
      rw [hrep, hjj, hj, ed_succ]
      have hlo := ed_lo p q (k + 1) j
      by_cases h3 : 0 < t
      · rw [if_pos h3, hl h3]
        have hleft : bc p q len (k + 1) (t - 1) = min (ed p q (k + 1) j) 3 := by
          unfold bc; rw [if_neg (by omega), if_neg (by omega)]; congr 2; omega
        rw [hleft]
        split <;> omega
      · rw [if_neg h3]
        split <;> omega
    · rw [if_neg h2]
      have hj : k + 1 + t - 2 = 0 := by omega
      rw [hj, ed_left]
      cases k with
      | zero =>
        rw [ed_zero]
        by_cases h3 : 0 < t
        · rw [if_pos h3, hl h3]
          have hleft : bc p q len (0 + 1) (t - 1) = 3 := by
            unfold bc; rw [if_pos (by omega)]
          rw [hleft]; omega
        · rw [if_neg h3]; omega
      | succ k =>
        rw [ed_left]
        by_cases h3 : 0 < t
        · rw [if_pos h3, hl h3]
          have hleft : bc p q len (k + 1 + 1) (t - 1) = 3 := by
            unfold bc; rw [if_pos (by omega)]
          rw [hleft]; omega
        · rw [if_neg h3]; omega

theorem nx_bc (p q : Nat → Int) (len k : Nat) : ∀ t, t < 5 → nx (bc p q len k) (p k) ((k + 1 : Nat) : Int) q len t = bc p q len (k + 1) t
  | 0, _ => bc_step p q len k 0 0 (by omega) (fun h => absurd h (by omega))
  | t + 1, h => bc_step p q len k (t + 1) _ h (fun _ => nx_bc p q len k t (by omega))

end Go.Proofs.Qxb6601204a.Band
