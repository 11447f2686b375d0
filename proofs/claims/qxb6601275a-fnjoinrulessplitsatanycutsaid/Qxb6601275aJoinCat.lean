/-
  'FnJoinRulesSplitsAtAnyCut': the two lists, one behind the other.
-/
import Derived.Test.Qxb6601275aJoinBytes
import Derived.Test.Qxb6601275aJoinWalk
namespace Go.Proofs.Qxb6601275a.JoinLaw
open Go.RowKit
open Join

theorem RulesAt.none {w : World} {a : Option Addr} {n : Nat} {N R F : Nat → ByteArray} (h : RulesAt w a n N R F) (e : a = .none) : n = 0 := by
  rcases Nat.eq_zero_or_pos n with h0 | h0
  · exact h0
  · obtain ⟨b, off, e', _⟩ := h h0
    rw [e] at e'; cases e'

/-- The cells of n rules. -/
def news (N R F : Nat → ByteArray) (n : Nat) : List Value := (List.range (n * 3)).map (cell3 N R F)
theorem news_len (N R F : Nat → ByteArray) (n : Nat) : (news N R F n).length = n * 3 := by simp [news]
theorem news_one (N R F : Nat → ByteArray) (n : Nat) : ∀ u ∈ news N R F n, u.oneCell' = true := by
  intro u hu
  simp only [news, List.mem_map] at hu
  obtain ⟨j, _, rfl⟩ := hu
  unfold cell3; split
  · rfl
  · split <;> rfl
theorem news_get (N R F : Nat → ByteArray) {n j : Nat} (h : j < n * 3) : (news N R F n)[j]? = some (cell3 N R F j) := by
  simp [news, h]

theorem Rows3.cell {w : World} {b off n : Nat} {N R F : Nat → ByteArray} (h : Rows3 w b off n N R F) {j : Nat} (hj : j < n * 3) : w.cell? ⟨b, off + j, none⟩ = some (cell3 N R F j) := by
  obtain ⟨h0, h1, h2⟩ := h (j / 3) (by omega)
  rcases (by omega : j % 3 = 0 ∨ j % 3 = 1 ∨ j % 3 = 2) with e | e | e
  · have : j = j / 3 * 3 := by omega
    rw [this, cell3_0, h0]
  · have : j = j / 3 * 3 + 1 := by omega
    rw [this, cell3_1, ← Nat.add_assoc, h1]
  · have : j = j / 3 * 3 + 2 := by omega
    rw [this, cell3_2, ← Nat.add_assoc, h2]

/-- What is appended lies where the slice leads. -/
theorem RulesAt.src {w : World} {a : Option Addr} {n : Nat} {N R F : Nat → ByteArray} (h : RulesAt w a n N R F) : ∀ ad, a = some ad → ∀ j u, (news N R F n)[j]? = some u → w.cell? (ad.add j) = some u := by
  intro ad e j u hu
  have hj : j < n * 3 := by have := (List.getElem?_eq_some_iff.1 hu).1; rwa [news_len] at this
  rw [news_get N R F hj] at hu
  obtain ⟨b, off, e', _, hr⟩ := h (by omega)
  rw [e'] at e
  injection e with e
  subst e
  rw [Addr.add_lit, hr.cell hj]; exact hu

/-- The two lists, one behind the other. -/
theorem rows_cat {w : World} {base g la lb : Nat} {N R F N' R' F' : Nat → ByteArray} (h : w.ownsRow base 44 3 (.slice (some ⟨g, 0, none⟩) (la + lb) (la + lb)) (la + lb) (news N R F la ++ news N' R' F' lb)) :
    RulesAt w (some ⟨g, 0, none⟩) (la + lb) (cat N la N') (cat R la R') (cat F la F') := by
  intro _
  refine ⟨g, 0, rfl, (h.lt g rfl).2, fun i hi => ?_⟩
  have get : ∀ j, j < (la + lb) * 3 → w.cell? ⟨g, 0 + j, none⟩ = (news N R F la ++ news N' R' F' lb)[j]? := fun j hj => by rw [Nat.zero_add]; exact h.cellAt j hj
  rw [Nat.add_assoc 0, Nat.add_assoc 0, get _ (by omega), get _ (by omega), get _ (by omega)]
  by_cases c : i < la
  · rw [cat_left c, cat_left c, cat_left c, List.getElem?_append_left (by rw [news_len]; omega), List.getElem?_append_left (by rw [news_len]; omega), List.getElem?_append_left (by rw [news_len]; omega), news_get _ _ _ (by omega), news_get _ _ _ (by omega), news_get _ _ _ (by omega), cell3_0, cell3_1, cell3_2]
    exact ⟨rfl, rfl, rfl⟩
  · obtain ⟨k, rfl⟩ : ∃ k, i = la + k := ⟨i - la, by omega⟩
    rw [cat_right, cat_right, cat_right, List.getElem?_append_right (by rw [news_len]; omega), List.getElem?_append_right (by rw [news_len]; omega), List.getElem?_append_right (by rw [news_len]; omega), news_len,
      show (la + k) * 3 - la * 3 = k * 3 by omega, show (la + k) * 3 + 1 - la * 3 = k * 3 + 1 by omega, show (la + k) * 3 + 2 - la * 3 = k * 3 + 2 by omega, news_get _ _ _ (by omega), news_get _ _ _ (by omega), news_get _ _ _ (by omega), cell3_0, cell3_1, cell3_2]
    exact ⟨rfl, rfl, rfl⟩

theorem strs_cat (N N' : Nat → ByteArray) (n : Nat) : strs (cat N n N') = cat (strs N) n (strs N') := by
  funext i; unfold strs cat; split <;> rfl

theorem wt_cat (N R F N' R' F' : Nat → ByteArray) (la lb : Nat) : wt (cat N la N') (cat R la R') (cat F la F') (la + lb) = wt N R F la + wt N' R' F' lb := by
  unfold wt; rw [strs_cat, strs_cat, strs_cat, tot_cat, tot_cat, tot_cat]; omega

theorem bts_inj {s t : ByteArray} (h : bts s = bts t) : s = t := by
  obtain ⟨⟨a⟩⟩ := s; obtain ⟨⟨b⟩⟩ := t
  unfold bts at h; simp at h; subst h; rfl
end Go.Proofs.Qxb6601275a.JoinLaw
