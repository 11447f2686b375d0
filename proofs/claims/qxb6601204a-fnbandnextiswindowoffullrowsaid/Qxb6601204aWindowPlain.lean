/-
  THE PLAIN LAW OF 'FnBandNextIsWindowOfFullRow': the band's new row is the window of the full row. No Go text in sight.
-/
import Derived.Test.Qxb6601204aBandPlain
namespace Go.Proofs.Qxb6601204a.Band

/-- Cell j of the old row. -/
def pv (b : Nat → Int) (k j : Int) : Int := if j - k + 3 < 0 ∨ 4 < j - k + 3 then 3 else b (j - k + 3).toNat

/-- The full new row. -/
def fr (b : Nat → Int) (r k : Int) (q : Nat → Int) : Nat → Int
  | 0 => min 3 (pv b k ((0 : Nat) : Int) + 1)
  | j + 1 => min (min (min 3 (pv b k ((j + 1 : Nat) : Int) + 1)) (fr b r k q j + 1)) (pv b k (j : Int) + if q j = r then 0 else 1)

/-- Its window. -/
def win (b : Nat → Int) (r k : Int) (q : Nat → Int) (len : Int) (t : Nat) : Int := if k - 2 + t < 0 ∨ len < k - 2 + t then 3 else fr b r k q (k - 2 + t).toNat

section
variable {b : Nat → Int} {r k : Int} {q : Nat → Int}

theorem pv_bd (hb : ∀ s, s < 5 → -128 ≤ b s ∧ b s ≤ 3) (j : Int) : -128 ≤ pv b k j ∧ pv b k j ≤ 3 := by
  unfold pv
  split
  · omega
  · exact hb _ (by omega)

theorem fr_bd (hb : ∀ s, s < 5 → -128 ≤ b s ∧ b s ≤ 3) : ∀ j, -128 ≤ fr b r k q j ∧ fr b r k q j ≤ 3
  | 0 => by have := pv_bd (k := k) hb ((0 : Nat) : Int); unfold fr; omega
  | j + 1 => by
    have h1 := pv_bd (k := k) hb ((j + 1 : Nat) : Int)
    have h2 := pv_bd (k := k) hb (j : Int)
    have ih := fr_bd hb j
    unfold fr
    split <;> omega

/-- Left of the window the full row is far. -/
theorem fr_left (h0 : 2 ≤ b 0) : ∀ j : Nat, (j : Int) + 3 ≤ k → fr b r k q j = 3
  | 0, h => by
    unfold fr
    by_cases e : k = 3
    · subst e; simp [pv]; omega
    · rw [show pv b k ((0 : Nat) : Int) = 3 from if_pos (by omega)]; omega
  | j + 1, h => by
    have ih := fr_left h0 j (by omega)
    unfold fr
    rw [ih, show pv b k (j : Int) = 3 from if_pos (by omega)]
    by_cases e : k = (j : Int) + 1 + 3
    · have : pv b k ((j + 1 : Nat) : Int) = b 0 := by unfold pv; rw [if_neg (by omega)]; congr 1; omega
      rw [this]; split <;> omega
    · rw [show pv b k ((j + 1 : Nat) : Int) = 3 from if_pos (by omega)]; split <;> omega

theorem win_step (h0 : 2 ≤ b 0) (len : Nat) (t : Nat) (left : Int) (ht : t < 5) (hl : 0 < t → left = win b r k q len (t - 1)) :
    nxStep b r k q len t left = win b r k q len t := by
  unfold nxStep
  by_cases h1 : k - 2 + t < 0 ∨ (len : Int) < k - 2 + t
  · rw [if_pos h1, win, if_pos h1]
  · rw [if_neg h1, win, if_neg h1]
    have hdel : (if t + 1 < 5 then min 3 (b (t + 1) + 1) else 3) = min 3 (pv b k (k - 2 + t) + 1) := by
      unfold pv
      split
      · rw [if_neg (by omega), show (k - 2 + (t : Int) - k + 3).toNat = t + 1 by omega]
      · rw [if_pos (by omega)]; omega
    rw [hdel]
    by_cases h2 : 0 < k - 2 + t
    · rw [if_pos h2]
      obtain ⟨j, hj⟩ : ∃ j : Nat, (k - 2 + (t : Int)).toNat = j + 1 := ⟨(k - 2 + (t : Int)).toNat - 1, by omega⟩
      have hj' : k - 2 + (t : Int) = ((j + 1 : Nat) : Int) := by omega
      have hrep : b t = pv b k (j : Int) := by unfold pv; rw [if_neg (by omega)]; congr 1; omega
      rw [hj, hj', hrep, Nat.add_sub_cancel]
      show _ = fr b r k q (j + 1)
      unfold fr
      by_cases h3 : 0 < t
      · rw [if_pos h3, hl h3]
        have hleft : win b r k q len (t - 1) = fr b r k q j := by
          unfold win; rw [if_neg (by omega)]; congr 1; omega
        rw [hleft]
      · rw [if_neg h3, fr_left h0 j (by omega)]
        split <;> omega
    · rw [if_neg h2]
      have hz : k - 2 + (t : Int) = ((0 : Nat) : Int) := by omega
      rw [hz]
      show _ = fr b r k q 0
      unfold fr
      by_cases h3 : 0 < t
      · rw [if_pos h3, hl h3]
        have hleft : win b r k q len (t - 1) = 3 := by unfold win; rw [if_pos (by omega)]
        rw [hleft]; omega
      · rw [if_neg h3]

theorem nx_win (h0 : 2 ≤ b 0) (len : Nat) : ∀ t, t < 5 → nx b r k q len t = win b r k q len t
  | 0, _ => win_step h0 len 0 0 (by omega) (fun h => absurd h (by omega))
  | t + 1, h => win_step h0 len (t + 1) _ h (fun _ => nx_win h0 len t (by omega))

/-- What the window holds when the cells below j are done. -/
def outAt (F : Nat → Int) (k : Int) (j : Nat) : Nat → Int := fun s => if 0 ≤ k - 2 + s ∧ k - 2 + s < j then F (k - 2 + s).toNat else 3

theorem outAt_zero (F : Nat → Int) (s : Nat) : outAt F k 0 s = 3 := if_neg (by omega)
theorem outAt_last (len s : Nat) : outAt (fr b r k q) k (len + 1) s = win b r k q len s := by
  unfold outAt win
  by_cases h : k - 2 + (s : Int) < 0 ∨ (len : Int) < k - 2 + s
  · rw [if_pos h, if_neg (by omega)]
  · rw [if_neg h, if_pos (by omega)]
/-- Cell j lies in the window. -/
theorem outAt_in {F : Nat → Int} {j t : Nat} (h : k - 2 + (t : Int) = j) (s : Nat) : (if s = t then F j else outAt F k j s) = outAt F k (j + 1) s := by
  unfold outAt
  by_cases e : s = t
  · subst e; rw [if_pos rfl, if_pos (by omega)]; congr 1; omega
  · rw [if_neg e]
    by_cases e2 : 0 ≤ k - 2 + (s : Int) ∧ k - 2 + (s : Int) < j
    · rw [if_pos e2, if_pos (by omega)]
    · rw [if_neg e2, if_neg (by omega)]
/-- Cell j lies outside. -/
theorem outAt_out {F : Nat → Int} {j : Nat} (h : (j : Int) - k + 2 < 0 ∨ 4 < (j : Int) - k + 2) (s : Nat) (hs : s < 5) : outAt F k j s = outAt F k (j + 1) s := by
  unfold outAt
  by_cases e2 : 0 ≤ k - 2 + (s : Int) ∧ k - 2 + (s : Int) < j
  · rw [if_pos e2, if_pos (by omega)]
  · rw [if_neg e2, if_neg (by omega)]
end
end Go.Proofs.Qxb6601204a.Band
