/-
  THE PLAIN LAW OF 'pathState.next' AND 'zzMeaning': the automaton's state is the class of the last, open segment. No Go text in sight.
-/
namespace Go.Proofs.Qxb6601275a.Path

def letter (c : Int) : Bool := decide ((97 ≤ c ∧ c ≤ 122) ∨ (65 ≤ c ∧ c ≤ 90))
theorem letter_t {c : Int} (h : letter c = true) : (97 ≤ c ∧ c ≤ 122) ∨ (65 ≤ c ∧ c ≤ 90) := of_decide_eq_true h
theorem letter_f {c : Int} (h : letter c = false) : ¬ ((97 ≤ c ∧ c ≤ 122) ∨ (65 ≤ c ∧ c ≤ 90)) := of_decide_eq_false h
theorem letter_mk {c : Int} (h : (97 ≤ c ∧ c ≤ 122) ∨ (65 ≤ c ∧ c ≤ 90)) : letter c = true := decide_eq_true h
theorem letter_no {c : Int} (h : ¬ ((97 ≤ c ∧ c ≤ 122) ∨ (65 ≤ c ∧ c ≤ 90))) : letter c = false := decide_eq_false h

/-- One step of the automaton. -/
def nextP (s c : Int) : Int :=
  if s = 6 ∨ c = 92 then 6
  else if c = 47 then (if s = 1 ∨ s = 2 then 5 else 6)
  else if c = 46 then (if s = 0 ∨ s = 5 then 3 else if s = 3 then 4 else 2)
  else if c = 126 ∧ s = 0 then 6
  else if c = 58 ∧ s = 1 then 6
  else if s = 0 ∧ letter c = true then 1 else 2

/-- The automaton's state behind n characters. -/
def run (f : Nat → Int) : Nat → Int
  | 0 => 0
  | n + 1 => nextP (run f n) (f n)

theorem next_six (c : Int) : nextP 6 c = 6 := if_pos (.inl rfl)
theorem next_slash (s : Int) : nextP s 92 = 6 := if_pos (.inr rfl)

theorem run_six {f : Nat → Int} {i : Nat} (h : run f i = 6) : ∀ n, i ≤ n → run f n = 6
  | 0, hn => by obtain rfl : i = 0 := by omega
                exact h
  | n + 1, hn => by
    by_cases e : i = n + 1
    · subst e; exact h
    · show nextP (run f n) (f n) = 6
      rw [run_six h n (by omega)]; exact next_six _

theorem run_bs {f : Nat → Int} {i n : Nat} (h : f i = 92) (hi : i < n) : run f n = 6 :=
  run_six (i := i + 1) (show nextP (run f i) (f i) = 6 by rw [h]; exact next_slash _) n hi

theorem run_tilde {f : Nat → Int} {n : Nat} (h : f 0 = 126) (hn : 0 < n) : run f n = 6 :=
  run_six (i := 1) (show nextP 0 (f 0) = 6 by rw [h]; decide) n hn

theorem run_drive {f : Nat → Int} {n : Nat} (h0 : letter (f 0) = true) (h1 : f 1 = 58) (hn : 2 ≤ n) : run f n = 6 := by
  refine run_six (i := 2) (show nextP (nextP 0 (f 0)) (f 1) = 6 from ?_) n hn
  have hl := letter_t h0
  have e : nextP 0 (f 0) = 1 := by
    unfold nextP
    rw [if_neg (by omega), if_neg (by omega), if_neg (by omega), if_neg (by omega), if_neg (by omega), if_pos ⟨rfl, h0⟩]
  rw [e, h1]; decide

/-- The class of the open segment [start, i). -/
def cls (f : Nat → Int) (start i : Nat) : Int :=
  if i = 0 then 0
  else if start = 0 ∧ i = 1 ∧ letter (f 0) = true then 1
  else if start = i then 5
  else if i = start + 1 ∧ f start = 46 then 3
  else if i = start + 2 ∧ f start = 46 ∧ f (start + 1) = 46 then 4
  else 2

/-- A closed segment that may stand. -/
def okSeg (f : Nat → Int) (start i : Nat) : Bool := !(decide (i = start) || decide (i = start + 1 ∧ f start = 46) || decide (i = start + 2 ∧ f start = 46 ∧ f (start + 1) = 46))

theorem okSeg_iff {f : Nat → Int} {start i : Nat} : okSeg f start i = true ↔ ¬ i = start ∧ ¬ (i = start + 1 ∧ f start = 46) ∧ ¬ (i = start + 2 ∧ f start = 46 ∧ f (start + 1) = 46) := by
  unfold okSeg
  rw [Bool.not_eq_true', Bool.or_eq_false_iff, Bool.or_eq_false_iff, decide_eq_false_iff_not, decide_eq_false_iff_not, decide_eq_false_iff_not, and_assoc]

theorem cls_step {f : Nat → Int} {start i : Nat} (hs : start ≤ i) (h1 : f i ≠ 92) (h2 : f i ≠ 47) (h3 : f 0 ≠ 126) (h4 : i = 1 → ¬ (letter (f 0) = true ∧ f 1 = 58)) :
    nextP (cls f start i) (f i) = cls f start (i + 1) := by
  by_cases e0 : i = 0
  · subst e0
    obtain rfl : start = 0 := by omega
    have c0 : cls f 0 0 = 0 := if_pos rfl
    rw [c0]
    unfold nextP cls
    rw [if_neg (by omega), if_neg h2]
    by_cases hl : letter (f 0) = true
    · have hl' := letter_t hl
      rw [if_neg (by omega), if_neg (by omega), if_neg (by omega), if_pos ⟨rfl, hl⟩, if_neg (by omega), if_pos ⟨rfl, rfl, hl⟩]
    · by_cases hd : f 0 = 46
      · rw [if_pos hd, if_pos (.inl rfl), if_neg (by omega), if_neg (fun h => hl h.2.2), if_neg (by omega), if_pos ⟨rfl, hd⟩]
      · rw [if_neg hd, if_neg (by omega), if_neg (by omega), if_neg (fun h => hl h.2), if_neg (by omega), if_neg (fun h => hl h.2.2), if_neg (by omega), if_neg (by omega), if_neg (by omega)]
  · by_cases e1 : start = 0 ∧ i = 1 ∧ letter (f 0) = true
    · have c1 : cls f start i = 1 := by unfold cls; rw [if_neg e0, if_pos e1]
      obtain ⟨rfl, rfl, hl⟩ := e1
      have hl' := letter_t hl
      rw [c1]
      have h58 : f 1 ≠ 58 := fun h => h4 rfl ⟨hl, h⟩
      have r : cls f 0 (1 + 1) = 2 := by unfold cls; rw [if_neg (by omega), if_neg (by omega), if_neg (by omega), if_neg (by omega), if_neg (by omega)]
      rw [r]
      unfold nextP
      rw [if_neg (by omega), if_neg h2]
      by_cases hd : f 1 = 46
      · rw [if_pos hd, if_neg (by omega), if_neg (by omega)]
      · rw [if_neg hd, if_neg (by omega), if_neg (by omega), if_neg (by omega)]
    · by_cases e2 : start = i
      · have c2 : cls f start i = 5 := by unfold cls; rw [if_neg e0, if_neg e1, if_pos e2]
        rw [c2]
        subst e2
        unfold nextP cls
        rw [if_neg (by omega), if_neg h2]
        by_cases hd : f start = 46
        · rw [if_pos hd, if_pos (.inr rfl), if_neg (by omega), if_neg (by omega), if_neg (by omega), if_pos ⟨rfl, hd⟩]
        · rw [if_neg hd, if_neg (by omega), if_neg (by omega), if_neg (by omega), if_neg (by omega), if_neg (by omega), if_neg (by omega), if_neg (by omega), if_neg (by omega)]
      · by_cases e3 : i = start + 1 ∧ f start = 46
        · have c3 : cls f start i = 3 := by unfold cls; rw [if_neg e0, if_neg e1, if_neg e2, if_pos e3]
          rw [c3]
          obtain ⟨rfl, hd0⟩ := e3
          unfold nextP cls
          rw [if_neg (by omega), if_neg h2]
          by_cases hd : f (start + 1) = 46
          · rw [if_pos hd, if_neg (by omega), if_pos rfl, if_neg (by omega), if_neg (by omega), if_neg (by omega), if_neg (by omega), if_pos ⟨rfl, hd0, hd⟩]
          · rw [if_neg hd, if_neg (by omega), if_neg (by omega), if_neg (by omega), if_neg (by omega), if_neg (by omega), if_neg (by omega), if_neg (by omega), if_neg (fun h => hd h.2.2)]
        · have r : cls f start (i + 1) = 2 := by
            unfold cls
            rw [if_neg (by omega), if_neg (by omega), if_neg (by omega), if_neg (by omega), if_neg]
            rintro ⟨a, b, c⟩
            exact e3 ⟨by omega, b⟩
          rw [r]
          have c4 : cls f start i = 4 ∨ cls f start i = 2 := by
            unfold cls; rw [if_neg e0, if_neg e1, if_neg e2, if_neg e3]; split
            · exact .inl rfl
            · exact .inr rfl
          unfold nextP
          rcases c4 with c | c <;> rw [c] <;> rw [if_neg (by omega), if_neg h2]
          · by_cases hd : f i = 46
            · rw [if_pos hd, if_neg (by omega), if_neg (by omega)]
            · rw [if_neg hd, if_neg (by omega), if_neg (by omega), if_neg (by omega)]
          · by_cases hd : f i = 46
            · rw [if_pos hd, if_neg (by omega), if_neg (by omega)]
            · rw [if_neg hd, if_neg (by omega), if_neg (by omega), if_neg (by omega)]

theorem cls_ok {f : Nat → Int} {start i : Nat} (hs : start ≤ i) (h : okSeg f start i = true) : cls f start i = 1 ∨ cls f start i = 2 := by
  obtain ⟨h1, h2, h3⟩ := okSeg_iff.1 h
  unfold cls
  rw [if_neg (by omega)]
  by_cases e : start = 0 ∧ i = 1 ∧ letter (f 0) = true
  · rw [if_pos e]; exact .inl rfl
  · rw [if_neg e, if_neg (by omega), if_neg h2, if_neg h3]; exact .inr rfl

theorem cls_bad {f : Nat → Int} {start i : Nat} (h : okSeg f start i = false) : ¬ (cls f start i = 1 ∨ cls f start i = 2) := by
  have h' : ¬ (¬ i = start ∧ ¬ (i = start + 1 ∧ f start = 46) ∧ ¬ (i = start + 2 ∧ f start = 46 ∧ f (start + 1) = 46)) := fun x => by
    rw [okSeg_iff.2 x] at h; exact absurd h (by decide)
  unfold cls
  by_cases e0 : i = 0
  · rw [if_pos e0]; omega
  rw [if_neg e0]
  by_cases e1 : start = 0 ∧ i = 1 ∧ letter (f 0) = true
  · exfalso
    obtain ⟨rfl, rfl, hl⟩ := e1
    have hl' := letter_t hl
    exact h' ⟨by omega, by omega, by omega⟩
  rw [if_neg e1]
  by_cases e2 : start = i
  · rw [if_pos e2]; omega
  rw [if_neg e2]
  by_cases e3 : i = start + 1 ∧ f start = 46
  · rw [if_pos e3]; omega
  rw [if_neg e3]
  by_cases e4 : i = start + 2 ∧ f start = 46 ∧ f (start + 1) = 46
  · rw [if_pos e4]; omega
  · exact absurd ⟨by omega, e3, e4⟩ h'

/-- At the head of a round: the automaton's state is the open segment's class. -/
def At (f : Nat → Int) (start i : Nat) : Prop := start ≤ i ∧ run f i = cls f start i

theorem At.start (f : Nat → Int) : At f 0 0 := ⟨Nat.le_refl _, rfl⟩
theorem At.step {f : Nat → Int} {start i : Nat} (h : At f start i) (h1 : f i ≠ 92) (h2 : f i ≠ 47) (h3 : f 0 ≠ 126) (h4 : i = 1 → ¬ (letter (f 0) = true ∧ f 1 = 58)) : At f start (i + 1) :=
  ⟨Nat.le_succ_of_le h.1, by show nextP (run f i) (f i) = _; rw [h.2]; exact cls_step h.1 h1 h2 h3 h4⟩
theorem At.close {f : Nat → Int} {start i : Nat} (h : At f start i) (hc : f i = 47) (ho : okSeg f start i = true) : At f (i + 1) (i + 1) := by
  refine ⟨Nat.le_refl _, ?_⟩
  show nextP (run f i) (f i) = _
  have hk := cls_ok h.1 ho
  rw [h.2, hc]
  have r : cls f (i + 1) (i + 1) = 5 := by unfold cls; rw [if_neg (by omega), if_neg (by omega), if_pos rfl]
  rw [r]
  unfold nextP
  rw [if_neg (by omega), if_pos rfl, if_pos hk]
theorem At.bad {f : Nat → Int} {start i n : Nat} (h : At f start i) (hc : f i = 47) (ho : okSeg f start i = false) (hn : i < n) : run f n = 6 := by
  refine run_six (i := i + 1) ?_ n hn
  show nextP (run f i) (f i) = 6
  have hk := cls_bad ho
  rw [h.2, hc]
  unfold nextP
  by_cases e : cls f start i = 6 ∨ (47 : Int) = 92
  · rw [if_pos e]
  · rw [if_neg e, if_pos rfl, if_neg hk]

theorem run_bd (f : Nat → Int) : ∀ n, 0 ≤ run f n ∧ run f n ≤ 6
  | 0 => by show (0 : Int) ≤ 0 ∧ (0 : Int) ≤ 6; omega
  | n + 1 => by
    show 0 ≤ nextP (run f n) (f n) ∧ nextP (run f n) (f n) ≤ 6
    unfold nextP
    repeat' split
    all_goals omega

section
variable {f : Nat → Int} {s n : Nat}
theorem At.slash (h : At f s n) (h0 : 0 < n) (e : s = n) : run f n = 5 := by
  rw [h.2, cls, if_neg (by omega), if_neg (by omega), if_pos e]
theorem At.letter (h : At f s n) (e : s = 0) (e1 : n = 1) (hl : letter (f 0) = true) : run f n = 1 := by
  rw [h.2, cls, if_neg (by omega), if_pos ⟨e, e1, hl⟩]
theorem At.one (h : At f s n) (e1 : n = s + 1) (hl : s = 0 → Path.letter (f 0) = false) : run f n = if f s = 46 then 3 else 2 := by
  rw [h.2, cls, if_neg (by omega), if_neg, if_neg (by omega)]
  · by_cases d : f s = 46
    · rw [if_pos ⟨e1, d⟩, if_pos d]
    · rw [if_neg (fun x => d x.2), if_neg (by omega), if_neg d]
  · rintro ⟨a, b, c⟩
    rw [hl a] at c; exact absurd c (by decide)
theorem At.two (h : At f s n) (e1 : n = s + 2) : run f n = if f s = 46 ∧ f (s + 1) = 46 then 4 else 2 := by
  rw [h.2, cls, if_neg (by omega), if_neg (by omega), if_neg (by omega), if_neg (by omega)]
  by_cases d : f s = 46 ∧ f (s + 1) = 46
  · rw [if_pos ⟨e1, d⟩, if_pos d]
  · rw [if_neg (fun x => d x.2), if_neg d]
theorem At.more (h : At f s n) (e1 : s + 2 < n) : run f n = 2 := by
  rw [h.2, cls, if_neg (by omega), if_neg (by omega), if_neg (by omega), if_neg (by omega), if_neg (by omega)]
end
end Go.Proofs.Qxb6601275a.Path
