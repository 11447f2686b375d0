/-
  THE WALKS OF 'numberStep' AND 'numberAutomaton'.
-/
import Derived.Test.Qxb6000403aProg
import Derived.Test.Qxb6000403aNumPlain
import Derived.WalkKit
import Derived.WalkLawsBesides
import Derived.WalkSpells
namespace Go.Proofs.Qxb6000403a.NumLaw
open Go.RowKit
open Num

theorem ret_bool {a b : Bool} (h : a = b) : Ending.returned (.bool a) = .returned (.bool b) := by rw [h]
theorem ret_int {k : IntKind} {a b : Int} (h : a = b) : Ending.returned (.int k a) = .returned (.int k b) := by rw [h]

theorem dig_any (c : Int) (w : World) : Calls Try.prog 25 #[.int .u8 c] w fun e w' => e = .returned (.bool (dig c)) ∧ w = w' := by
  go_enter Try.func25, Try.ntmps25
  go_wp2
  all_goals go_ret
  all_goals exact ⟨ret_bool (by unfold dig; rw [Bool.eq_iff_iff]; simp; omega), rfl⟩

set_option maxRecDepth 100000 in
set_option maxHeartbeats 1600000 in
theorem step_any (s c : Int) (w : World) (h0 : 0 ≤ s) (h8 : s ≤ 8) : Calls Try.prog 22 #[.int .i64 s, .int .u8 c] w fun e w' => e = .returned (.int .i64 (nstep s c)) ∧ w = w' := by
  rcases (by omega : s = 0 ∨ s = 1 ∨ s = 2 ∨ s = 3 ∨ s = 4 ∨ s = 5 ∨ s = 6 ∨ s = 7 ∨ s = 8) with rfl | rfl | rfl | rfl | rfl | rfl | rfl | rfl | rfl
  all_goals
    clear h0 h8
    go_enter Try.func22, Try.ntmps22
    go_wp2_with (go_at_call 25; refine (dig_any _ _).mono ?_; rintro e w' ⟨rfl, rfl⟩)
    all_goals go_ret
    all_goals refine ⟨ret_int ?_, rfl⟩
    all_goals simp_all [nstep]
    all_goals omega

/-- The bytes of a slice. -/
def Cells (w : World) (a : Option Addr) (n : Nat) (f : Nat → Int) : Prop :=
  0 < n → ∃ b off, a = some ⟨b, off, none⟩ ∧ b < w.heap.size ∧ ∀ j, j < n → w.cell? ⟨b, off + j, none⟩ = some (.int .u8 (f j))

theorem fin_of (s : Int) : ((s = 2 ∨ s = 3) ∨ s = 5) ∨ s = 8 ↔ fin s = true := by simp [fin]; omega

set_option maxRecDepth 100000 in
theorem auto_any (a : Option Addr) (n cap : Nat) (f : Nat → Int) (w : World) (hn : n ≤ 1048576) (hC : Cells w a n f) :
    Calls Try.prog 11 #[.slice a n cap] w fun e w' => e = .returned (.bool (num f n)) ∧ w = w' := by
  have HC : Hid _ := hC
  clear hC
  go_enter Try.func11, Try.ntmps11
  go_wp2
  go_loop [3, 4] (fun s i => ∃ (z : Int) (k : Nat), k ≤ n ∧ 0 ≤ z ∧ z ≤ 8 ∧ s = .int .i64 z ∧ i = .int .i64 k ∧ A f n z k = num f n) (fun _ i => n - (intOf i).toNat)
  case atStart => exact ⟨0, 0, by omega, by omega, by omega, rfl, rfl, A0⟩
  case round =>
    obtain ⟨z, k, hk, h0, h8, rfl, rfl, hA⟩ := hrel
    have HA : Hid _ := hA
    clear hA
    by_cases hlt : k < n
    · obtain ⟨b, off, rfl, -, hc⟩ := HC.out (by omega)
      have hck := hc k hlt
      clear hc
      have hs := A_step (f := f) z hlt
      have hbd := step_bd z (f k)
      have HS : Hid _ := hs
      clear hs
      by_cases hneg : nstep z (f k) < 0
      · go_wp2_with (go_at_call 22; refine (step_any _ _ _ (by omega) (by omega)).mono ?_; rintro e w' ⟨rfl, rfl⟩)
        go_ret
        exact ⟨ret_bool (by rw [← HA.out, HS.out, if_pos (by omega)]), rfl⟩
      · go_wp2_with (go_at_call 22; refine (step_any _ _ _ (by omega) (by omega)).mono ?_; rintro e w' ⟨rfl, rfl⟩)
        go_round
        case rel => exact ⟨nstep z (f k), k + 1, by omega, by omega, by omega, rfl, by go_num, by rw [← HA.out, HS.out, if_neg (by omega)]⟩
        case measure => simp [intOf]; omega
    · have hE := A_end (f := f) z hlt
      have HE : Hid _ := hE
      clear hE
      obtain rfl : k = n := by omega
      go_wp2
      all_goals go_ret
      all_goals refine ⟨ret_bool ?_, rfl⟩
      all_goals rw [← HA.out, HE.out]
      all_goals clear HA HE HC
      all_goals simp_all [fin]
      all_goals (rw [Bool.eq_iff_iff]; simp; omega)

end Go.Proofs.Qxb6000403a.NumLaw
