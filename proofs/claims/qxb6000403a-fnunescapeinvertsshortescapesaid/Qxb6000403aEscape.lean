/-
  THE WALKS OF 'unescape', 'shortEscapeLetter' AND OF 'FnUnescapeInvertsShortEscape'.
-/
import Derived.Test.Qxb6000403aProg
import Derived.WalkKit
import Derived.WalkLawsBesides
import Derived.WalkSpells
import Derived.OpenShut
namespace Go.Proofs.Qxb6000403a
open Go.RowKit

/-- What unescape answers. -/
def une (c : Int) : Int := if c = 34 ∨ c = 92 ∨ c = 47 then c else if c = 98 then 8 else if c = 102 then 12 else if c = 110 then 10 else if c = 114 then 13 else if c = 116 then 9 else 0
/-- What shortEscapeLetter answers. -/
def she (x : Int) : Int := if x = 34 ∨ x = 92 ∨ x = 47 then x else if x = 8 then 98 else if x = 12 then 102 else if x = 10 then 110 else if x = 13 then 114 else if x = 9 then 116 else 0

theorem she_une (c : Int) (h : une c ≠ 0) : she (une c) = c := by
  unfold une at h ⊢
  by_cases h1 : c = 34 ∨ c = 92 ∨ c = 47
  · rw [if_pos h1]; unfold she; rw [if_pos h1]
  rw [if_neg h1] at h ⊢
  by_cases h2 : c = 98
  · rw [if_pos h2, h2]; decide
  rw [if_neg h2] at h ⊢
  by_cases h3 : c = 102
  · rw [if_pos h3, h3]; decide
  rw [if_neg h3] at h ⊢
  by_cases h4 : c = 110
  · rw [if_pos h4, h4]; decide
  rw [if_neg h4] at h ⊢
  by_cases h5 : c = 114
  · rw [if_pos h5, h5]; decide
  rw [if_neg h5] at h ⊢
  by_cases h6 : c = 116
  · rw [if_pos h6, h6]; decide
  rw [if_neg h6] at h
  exact absurd rfl h

theorem une_she (y : Int) (h : she y ≠ 0) (hy : y ≠ 0) : une (she y) ≠ 0 := by
  unfold she at h ⊢
  by_cases h1 : y = 34 ∨ y = 92 ∨ y = 47
  · rw [if_pos h1]; unfold une; rw [if_pos h1]; exact hy
  rw [if_neg h1] at h ⊢
  by_cases h2 : y = 8
  · rw [if_pos h2]; decide
  rw [if_neg h2] at h ⊢
  by_cases h3 : y = 12
  · rw [if_pos h3]; decide
  rw [if_neg h3] at h ⊢
  by_cases h4 : y = 10
  · rw [if_pos h4]; decide
  rw [if_neg h4] at h ⊢
  by_cases h5 : y = 13
  · rw [if_pos h5]; decide
  rw [if_neg h5] at h ⊢
  by_cases h6 : y = 9
  · rw [if_pos h6]; decide
  rw [if_neg h6] at h
  exact absurd rfl h

theorem ret_int {k : IntKind} {a b : Int} (h : a = b) : Ending.returned (.int k a) = .returned (.int k b) := by rw [h]

set_option maxHeartbeats 800000 in
theorem une_any (c : Int) (w : World) : Calls Try.prog 19 #[.int .u8 c] w fun e w' => e = .returned (.int .u8 (une c)) ∧ w = w' := by
  go_enter Try.func19, Try.ntmps19
  go_wp2
  all_goals go_ret
  all_goals exact ⟨ret_int (by simp_all [une]), rfl⟩

set_option maxHeartbeats 800000 in
theorem she_any (c : Int) (w : World) : Calls Try.prog 20 #[.int .u8 c] w fun e w' => e = .returned (.int .u8 (she c)) ∧ w = w' := by
  go_enter Try.func20, Try.ntmps20
  go_wp2
  all_goals go_ret
  all_goals exact ⟨ret_int (by simp_all [she]), rfl⟩

set_option maxRecDepth 100000 in
theorem esc_law (c : Int) (w : World) : Calls Try.prog 6 #[.int .u8 c] w fun e w' => e = .returned (.bool true) ∧ w = w' := by
  by_cases h0 : c = 0
  · subst h0
    have hu : une 0 = 0 := by decide
    go_enter Try.func6, Try.ntmps6
    go_wp2_with (go_at_call 19; refine (une_any _ _).mono ?_; rintro e w' ⟨rfl, rfl⟩)
    go_ret
    exact ⟨by simp, rfl⟩
  have h0' : (c == 0) = false := by simp [h0]
  by_cases hu : une c = 0
  · have hs : ∀ y : Int, y ≠ 0 → she y = 0 ∨ ((she y == c) = false ∧ (she y != 0) = true) := fun y hy => by
      by_cases e : she y = 0
      · exact .inl e
      · refine .inr ⟨?_, by simp [e]⟩
        have := une_she y e hy
        simp only [beq_eq_false_iff_ne, ne_eq]
        intro e2; rw [e2] at this; exact this hu
    have HS : Hid _ := hs
    clear hs h0
    go_enter Try.func6, Try.ntmps6
    go_wp2_with (go_at_call 19; refine (une_any _ _).mono ?_; rintro e w' ⟨rfl, rfl⟩)
    go_loop [4] (fun i => ∃ k : Nat, k ≤ 256 ∧ i = .int .i64 k) (fun i => 256 - (intOf i).toNat)
    case atStart => exact ⟨0, by omega, rfl⟩
    case round =>
      obtain ⟨k, hk, rfl⟩ := hrel
      by_cases hlt : k < 256
      · have hk0 : she (k : Int) = 0 ∨ ((she (k : Int) == c) = false ∧ (she (k : Int) != 0) = true) := by
          by_cases e : k = 0
          · subst e; exact .inl (by decide)
          · exact HS.out _ (by omega)
        rcases hk0 with e | ⟨e1, e2⟩
        · have e' : (she (k : Int) != 0) = false := by simp [e]
          clear e
          go_wp2_with (go_at_call 20; refine (she_any _ _).mono ?_; rintro e w' ⟨rfl, rfl⟩)
          go_round
          case rel => exact ⟨k + 1, by omega, by go_num⟩
          case measure => simp [intOf]; omega
        · go_wp2_with (go_at_call 20; refine (she_any _ _).mono ?_; rintro e w' ⟨rfl, rfl⟩)
          go_round
          case rel => exact ⟨k + 1, by omega, by go_num⟩
          case measure => simp [intOf]; omega
      · go_wp2
        go_ret
        exact ⟨rfl, rfl⟩
  · have h1 := she_une c hu
    have H1 : Hid _ := h1
    have hu' : (une c != 0) = true := by simp [hu]
    clear h1 hu h0
    go_enter Try.func6, Try.ntmps6
    go_wp2_with (first | (go_at_call 19; refine (une_any _ _).mono ?_; rintro e w' ⟨rfl, rfl⟩) | (go_at_call 20; refine (she_any _ _).mono ?_; rintro e w' ⟨rfl, rfl⟩; rw [H1.out]))
    go_ret
    exact ⟨by simp, rfl⟩
end Go.Proofs.Qxb6000403a
