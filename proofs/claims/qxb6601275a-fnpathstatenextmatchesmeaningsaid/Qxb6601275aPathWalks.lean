/-
  THE WALKS OF 'next', 'zzIsLetter', 'zzCompleteSegmentOK' AND 'zzMeaning'.
-/
import Derived.Test.Qxb6601275aProg
import Derived.Test.Qxb6601275aPathPlain
import Derived.WalkKit
import Derived.WalkLawsBesides
import Derived.WalkSpells
namespace Go.Proofs.Qxb6601275a
open Go.RowKit
open Path

theorem ret_bool {a b : Bool} (h : a = b) : Ending.returned (.bool a) = .returned (.bool b) := by rw [h]
theorem ret_int {k : IntKind} {a b : Int} (h : a = b) : Ending.returned (.int k a) = .returned (.int k b) := by rw [h]

theorem zzletter_any (c : Int) (w : World) : Calls Try.prog 24 #[.int .i32 c] w fun e w' => e = .returned (.bool (letter c)) ∧ w = w' := by
  go_enter Try.func24, Try.ntmps24
  go_wp2
  all_goals go_ret
  all_goals exact ⟨ret_bool (by unfold letter; rw [Bool.eq_iff_iff]; simp; omega), rfl⟩

theorem letter_any (c : Int) (w : World) : Calls Try.prog 34 #[.int .i32 c] w fun e w' => e = .returned (.bool (letter c)) ∧ w = w' := by
  go_enter Try.func34, Try.ntmps34
  go_wp2
  all_goals go_ret
  all_goals exact ⟨ret_bool (by unfold letter; rw [Bool.eq_iff_iff]; simp; omega), rfl⟩

set_option maxHeartbeats 800000 in
theorem next_any (s c : Int) (w : World) : Calls Try.prog 23 #[.int .u8 s, .int .i32 c] w fun e w' => e = .returned (.int .u8 (nextP s c)) ∧ w = w' := by
  go_enter Try.func23, Try.ntmps23
  go_wp2_with (go_at_call 34; refine (letter_any _ _).mono ?_; rintro e w' ⟨rfl, rfl⟩)
  all_goals go_ret
  all_goals exact ⟨ret_int (by simp_all [nextP]), rfl⟩

theorem zznext_any (s c : Int) (w : World) : Calls Try.prog 12 #[.int .u8 s, .int .i32 c] w fun e w' => e = .returned (.int .u8 (nextP s c)) ∧ w = w' := by
  have hb : 0 ≤ nextP s c ∧ nextP s c ≤ 255 := by
    unfold nextP
    repeat' split
    all_goals omega
  go_enter Try.func12, Try.ntmps12
  go_wp2_with (go_at_call 23; refine (next_any _ _ _).mono ?_; rintro e w' ⟨rfl, rfl⟩)
  go_ret
  exact ⟨rfl, rfl⟩

/-- The cells that a slice leads to. -/
def Cells (w : World) (a : Option Addr) (len : Nat) (f : Nat → Int) : Prop := 0 < len → ∃ b off, a = some ⟨b, off, none⟩ ∧ ∀ j, j < len → w.cell? ⟨b, off + j, none⟩ = some (.int .i32 (f j))

/-- A closed segment: [start, i) of the text. -/
theorem seg_any (b off n cap : Nat) (f : Nat → Int) (start : Nat) (w : World) (hn : n ≤ 1048576) (hc : ∀ j, j < n → w.cell? ⟨b, off + j, none⟩ = some (.int .i32 (f (start + j)))) :
    Calls Try.prog 25 #[.slice (some ⟨b, off, none⟩) n cap] w fun e w' => e = .returned (.bool (okSeg f start (start + n))) ∧ w = w' := by
  by_cases h0 : n = 0
  · subst h0
    go_enter Try.func25, Try.ntmps25
    go_wp2
    go_ret
    exact ⟨ret_bool (by simp [okSeg]), rfl⟩
  by_cases h1 : n = 1
  · subst h1
    have c0 := hc 0 (by omega)
    simp only [Nat.add_zero] at c0
    clear hc
    by_cases d : f start = 46
    · rw [d] at c0
      go_enter Try.func25, Try.ntmps25
      go_wp2
      go_ret
      exact ⟨ret_bool (by simp [okSeg, d]), rfl⟩
    · have d' : (f start == 46) = false := by simp [d]
      go_enter Try.func25, Try.ntmps25
      go_wp2
      go_ret
      exact ⟨ret_bool (by simp [okSeg, d]), rfl⟩
  by_cases h2 : n = 2
  · subst h2
    have c0 := hc 0 (by omega)
    have c1 := hc 1 (by omega)
    simp only [Nat.add_zero] at c0
    clear hc
    by_cases d : f start = 46
    · rw [d] at c0
      by_cases d1 : f (start + 1) = 46
      · rw [d1] at c1
        go_enter Try.func25, Try.ntmps25
        go_wp2
        go_ret
        exact ⟨ret_bool (by simp [okSeg, d, d1]), rfl⟩
      · have d' : (f (start + 1) == 46) = false := by simp [d1]
        go_enter Try.func25, Try.ntmps25
        go_wp2
        go_ret
        exact ⟨ret_bool (by simp [okSeg, d, d1]), rfl⟩
    · have d' : (f start == 46) = false := by simp [d]
      go_enter Try.func25, Try.ntmps25
      go_wp2
      go_ret
      exact ⟨ret_bool (by simp [okSeg, d]), rfl⟩
  clear hc
  have g0 : ((n : Int) == 0) = false := by simp [h0]
  have g1 : ((n : Int) == 1) = false := by simp; omega
  have g2 : ((n : Int) == 2) = false := by simp; omega
  go_enter Try.func25, Try.ntmps25
  go_wp2
  go_ret
  exact ⟨ret_bool (by simp [okSeg, h0, h1, h2]), rfl⟩
end Go.Proofs.Qxb6601275a
