/-
  THE PLAIN LAW OF 'joinRules': joining splits at any cut. No Go text in sight.
-/
namespace Go.Proofs.Qxb6601275a.Join

abbrev Str := List UInt8

/-- The names of the first k rules, joined by ','. -/
def nb (N : Nat → Str) : Nat → Str
  | 0 => []
  | k + 1 => nb N k ++ ((if 0 < k then [44] else []) ++ N k)

/-- The reasons of the first k rules that state one, joined by 0xff. -/
def rb (R : Nat → Str) : Nat → Str
  | 0 => []
  | k + 1 => if R k = [] then rb R k else if rb R k = [] then R k else rb R k ++ (255 :: R k)

/-- The files of the first k rules, joined by 0. -/
def fb (F : Nat → Str) : Nat → Str
  | 0 => []
  | k + 1 => fb F k ++ ((if 0 < k then [0] else []) ++ F k)

def tot (N : Nat → Str) : Nat → Nat
  | 0 => 0
  | k + 1 => tot N k + (N k).length

theorem nb_le (N : Nat → Str) : ∀ k, (nb N k).length ≤ tot N k + k
  | 0 => Nat.le_refl _
  | k + 1 => by
    have := nb_le N k
    simp only [nb, tot, List.length_append]
    split <;> simp <;> omega
theorem fb_le (N : Nat → Str) : ∀ k, (fb N k).length ≤ tot N k + k
  | 0 => Nat.le_refl _
  | k + 1 => by
    have := fb_le N k
    simp only [fb, tot, List.length_append]
    split <;> simp <;> omega
theorem rb_le (N : Nat → Str) : ∀ k, (rb N k).length ≤ tot N k + k
  | 0 => Nat.le_refl _
  | k + 1 => by
    have := rb_le N k
    simp only [rb, tot]
    split
    · omega
    · split
      · omega
      · simp; omega

/-- a and then b. -/
def cat {α : Type} (A : Nat → α) (n : Nat) (B : Nat → α) : Nat → α := fun i => if i < n then A i else B (i - n)

theorem cat_left {α : Type} {A : Nat → α} {n : Nat} {B : Nat → α} {i : Nat} (h : i < n) : cat A n B i = A i := if_pos h
theorem cat_right {α : Type} {A : Nat → α} {n : Nat} {B : Nat → α} {i : Nat} : cat A n B (n + i) = B i := by
  unfold cat; rw [if_neg (by omega)]; congr 1; omega

theorem nb_congr {N M : Nat → Str} : ∀ k, (∀ i, i < k → N i = M i) → nb N k = nb M k
  | 0, _ => rfl
  | k + 1, h => by simp only [nb]; rw [nb_congr k (fun i hi => h i (by omega)), h k (by omega)]
theorem rb_congr {N M : Nat → Str} : ∀ k, (∀ i, i < k → N i = M i) → rb N k = rb M k
  | 0, _ => rfl
  | k + 1, h => by simp only [rb]; rw [rb_congr k (fun i hi => h i (by omega)), h k (by omega)]
theorem tot_congr {N M : Nat → Str} : ∀ k, (∀ i, i < k → N i = M i) → tot N k = tot M k
  | 0, _ => rfl
  | k + 1, h => by simp only [tot]; rw [tot_congr k (fun i hi => h i (by omega)), h k (by omega)]

theorem tot_cat (A B : Nat → Str) (n : Nat) : ∀ m, tot (cat A n B) (n + m) = tot A n + tot B m
  | 0 => tot_congr n (fun i hi => cat_left hi)
  | m + 1 => by
    show tot (cat A n B) (n + m) + (cat A n B (n + m)).length = _
    rw [tot_cat A B n m, cat_right]; simp only [tot]; omega

theorem nb_cat (A B : Nat → Str) (n : Nat) : ∀ m, nb (cat A n B) (n + m) = if n = 0 then nb B m else if m = 0 then nb A n else nb A n ++ (44 :: nb B m)
  | 0 => by
    rw [Nat.add_zero, nb_congr n (fun i hi => cat_left hi)]
    by_cases h : n = 0
    · subst h; rfl
    · rw [if_neg h, if_pos rfl]
  | m + 1 => by
    show nb (cat A n B) (n + m) ++ ((if 0 < n + m then [44] else []) ++ cat A n B (n + m)) = _
    rw [nb_cat A B n m, cat_right]
    by_cases h : n = 0
    · subst h; rw [if_pos rfl, if_pos rfl, Nat.zero_add]; rfl
    · rw [if_neg h, if_neg h, if_pos (by omega : 0 < n + m), if_neg (by omega : ¬ m + 1 = 0)]
      by_cases h2 : m = 0
      · subst h2; rw [if_pos rfl]; simp [nb]
      · rw [if_neg h2]
        simp only [nb]
        rw [if_pos (by omega : 0 < m)]
        simp

/-- Two joined lists of reasons, glued. -/
def glue (x y : Str) : Str := if x = [] then y else if y = [] then x else x ++ (255 :: y)

theorem rb_cat (A B : Nat → Str) (n : Nat) : ∀ m, rb (cat A n B) (n + m) = glue (rb A n) (rb B m)
  | 0 => by
    rw [Nat.add_zero, rb_congr n (fun i hi => cat_left hi)]
    unfold glue
    by_cases h : rb A n = []
    · rw [if_pos h, h]; rfl
    · rw [if_neg h, if_pos (show rb B 0 = [] from rfl)]
  | m + 1 => by
    show (if cat A n B (n + m) = [] then rb (cat A n B) (n + m) else if rb (cat A n B) (n + m) = [] then cat A n B (n + m) else rb (cat A n B) (n + m) ++ (255 :: cat A n B (n + m))) = _
    rw [rb_cat A B n m, cat_right]
    simp only [rb]
    by_cases h : B m = []
    · rw [if_pos h, if_pos h]
    · rw [if_neg h, if_neg h]
      unfold glue
      by_cases h1 : rb A n = []
      · rw [if_pos h1, if_pos h1]
      · rw [if_neg h1, if_neg h1]
        by_cases h2 : rb B m = []
        · rw [if_pos h2, if_pos h2, if_neg h1, if_neg h]
        · rw [if_neg h2, if_neg h2, if_neg (by simp), if_neg (by simp)]
          simp
end Go.Proofs.Qxb6601275a.Join
