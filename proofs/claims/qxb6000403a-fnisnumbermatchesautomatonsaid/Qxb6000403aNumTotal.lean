/-
  THE WALKS OF 'cloneBytes' AND OF 'FnIsNumberMatchesAutomaton'.
-/
import Derived.Test.Qxb6000403aNumWalk
namespace Go.Proofs.Qxb6000403a.NumLaw
open Go.RowKit
open Num

/-- WHAT THE WALK IS TOLD OF A SLICE OF INTEGERS THAT CAME IN (the shell's own words). -/
def IsRow (k : IntKind) (w : World) (a : Option Addr) (len cap : Nat) (zs : List Int) : Prop :=
  (a = none ∧ len = 0 ∧ cap = 0 ∧ zs = []) ∨
  ∃ x, a = some x ∧ len ≤ cap ∧ cap ≤ maxLen ∧ zs.length = cap ∧ (∀ i, i < zs.length → w.cell? (x.add i) = some (.int k (zs.getD i 0))) ∧ ∀ n ∈ zs, (Lit.int k n).wf = true

theorem info5 : (Try.prog.info? 5).map (fun i => (i.zero, i.size, i.bytes)) = some (some (.int .u8 0), 1, 1) := by kernel_rfl

theorem cell_lt {w : World} {a : Addr} {v : Value} (h : w.cell? a = some v) : a.block < w.heap.size := by
  rcases Nat.lt_or_ge a.block w.heap.size with h' | h'
  · exact h'
  · simp [World.cell?, Array.getElem?_eq_none h'] at h

theorem IsRow.lay {w : World} {a : Option Addr} {len cap : Nat} {zs : List Int} (h : IsRow .u8 w a len cap zs) : Cells w a len (fun i => zs.getD i 0) := by
  intro hp
  rcases h with ⟨_, h, _⟩ | ⟨x, rfl, hlc, _, hzl, hcell, _⟩
  · omega
  · obtain ⟨b, off, rfl, hc⟩ := ints_at hcell (by omega)
    exact ⟨b, off, rfl, cell_lt (hc 0 (by omega)), fun j hj => hc j (by omega)⟩

/-- A row that is being filled. -/
def fillAt (f : Nat → Int) (k : Nat) : Nat → Value := fun j => if j < k then .int .u8 (f j) else .int .u8 0
theorem fill_set (f : Nat → Int) (k j : Nat) : (if j = k then .int .u8 (f k) else fillAt f k j) = fillAt f (k + 1) j := by
  unfold fillAt
  by_cases e : j = k
  · subst e; rw [if_pos rfl, if_pos (by omega)]
  · rw [if_neg e]
    by_cases e2 : j < k
    · rw [if_pos e2, if_pos (by omega)]
    · rw [if_neg e2, if_neg (by omega)]

set_option maxRecDepth 100000 in
theorem copy_some (x : Addr) (len cap : Nat) (f : Nat → Int) (w : World) (hlen : len ≤ 1048576) (hC : Cells w (some x) len f) :
    Calls Try.prog 9 #[.slice (some x) len cap] w fun e w' => ∃ a, e = .returned (.slice a len len) ∧ Cells w' a len f ∧ Below w.heap.size w w' := by
  have heq := fun (w : World) => Lib.run_eql_slice_nil (P := Try.prog) w 22 5 (some x) len cap 0 0 Try.underlying22
  have hmk := fun (w : World) => run_make_row' (P := Try.prog) 22 5 (.int .u8 0) 1 Try.underlying22 info5 rfl .i64 .i64 len (by omega) (by omega) w
  have HC : Hid _ := hC
  clear hC
  go_enter Try.func9, Try.ntmps9
  go_wp2
  clear heq hmk
  go_loopw [4] (fun i wr => ∃ k : Nat, k ≤ len ∧ i = .int .i64 k ∧ wr.rowIs w.heap.size 5 len (fillAt f k) ∧ Below w.heap.size w wr) (fun i _ => len - (intOf i).toNat)
  case atStart => exact ⟨0, by omega, rfl, (World.rowIs_made w (.int .u8 0) len 5).congr (fun j _ => by unfold fillAt; rw [if_neg (by omega)]), (Below.refl _ _).alloc (Nat.le_refl _) _⟩
  case round =>
    obtain ⟨k, hk, rfl, hrow, hb⟩ := hrel
    by_cases hlt : k < len
    · obtain ⟨b, off, e, hbl, hc⟩ := HC.out (by omega)
      injection e with e
      subst e
      have hc1 : wr.cell? ⟨b, off + k, none⟩ = some (.int .u8 (f k)) := (hb.cell hbl).trans (hc k hlt)
      have hc2 := hrow.cell hlt
      have hf2 := hrow.frozen k
      clear hc
      go_wp2
      go_roundw
      case rel => exact ⟨k + 1, by omega, by go_num, (hrow.set k _).congr (fun j _ => fill_set f k j), hb.setCell (Nat.le_refl _) _⟩
      case measure => simp [intOf]; omega
    · obtain rfl : k = len := by omega
      go_wp2
      go_ret
      refine ⟨_, rfl, fun _ => ⟨w.heap.size, 0, rfl, hrow.lt, fun j hj => ?_⟩, hb⟩
      rw [Nat.zero_add, hrow.cell hj]
      unfold fillAt
      rw [if_pos hj]

theorem copy_nil (f : Nat → Int) (w : World) :
    Calls Try.prog 9 #[.slice none 0 0] w fun e w' => ∃ a, e = .returned (.slice a 0 0) ∧ Cells w' a 0 f ∧ Below w.heap.size w w' := by
  have heq := fun (w : World) => Lib.run_eql_slice_nil (P := Try.prog) w 22 5 none 0 0 0 0 Try.underlying22
  go_enter Try.func9, Try.ntmps9
  go_wp2
  go_ret
  exact ⟨none, rfl, fun h => absurd h (by omega), Below.refl _ _⟩

theorem copy_any (a : Option Addr) (len cap : Nat) (zs : List Int) (w : World) (hlen : len ≤ 1048576) (h : IsRow .u8 w a len cap zs) :
    Calls Try.prog 9 #[.slice a len cap] w fun e w' => ∃ a, e = .returned (.slice a len len) ∧ Cells w' a len (fun i => zs.getD i 0) ∧ Below w.heap.size w w' := by
  have hl := h.lay
  rcases h with ⟨rfl, rfl, rfl, rfl⟩ | ⟨x, rfl, _⟩
  · exact copy_nil _ w
  · exact copy_some x len cap _ w hlen hl

theorem bytes8_ok (a : Option Addr) (len cap : Nat) (w : World) (hl : len ≤ 1048576) :
    Calls Try.prog 8 #[.slice a len cap] w fun e w' => e = .returned (.bool true) ∧ w = w' := by
  go_enter Try.func8, Try.ntmps8
  go_wp2
  go_ret
  exact ⟨rfl, rfl⟩

theorem bytes8_no (a : Option Addr) (len cap : Nat) (w : World) (hl : ¬ len ≤ 1048576) :
    Calls Try.prog 8 #[.slice a len cap] w fun e w' => e = .returned (.bool false) ∧ w = w' := by
  go_enter Try.func8, Try.ntmps8
  go_wp2
  go_ret
  exact ⟨rfl, rfl⟩

theorem zzisnum (a : Option Addr) (n cap : Nat) (f : Nat → Int) (w : World) (hn : n ≤ 1048576) (hC : Cells w a n f) :
    Calls Try.prog 10 #[.slice a n cap] w fun e w' => e = .returned (.bool (num f n)) ∧ Below w.heap.size w w' := by
  go_enter Try.func10, Try.ntmps10
  go_wp2_with (go_at_call 21; refine (isnum a n cap f _ hn hC).mono ?_; rintro e w2 ⟨rfl, hB⟩)
  go_ret
  exact ⟨rfl, hB⟩

theorem Cells.keep {w w' : World} {a : Option Addr} {n : Nat} {f : Nat → Int} (h : Cells w a n f) (hB : Below w.heap.size w w') : Cells w' a n f := fun hp => by
  obtain ⟨b, off, e, hb, hc⟩ := h hp
  exact ⟨b, off, e, Nat.lt_of_lt_of_le hb hB.size, fun j hj => (hB.cell hb).trans (hc j hj)⟩

theorem law_long (a : Option Addr) (len cap : Nat) (w : World) (hl : ¬ len ≤ 1048576) :
    Calls Try.prog 3 #[.slice a len cap] w fun e w' => e = .returned (.bool true) ∧ Below w.heap.size w w' := by
  go_enter Try.func3, Try.ntmps3
  go_wp2_with (go_at_call 8; refine (bytes8_no _ _ _ _ hl).mono ?_; rintro e w' ⟨rfl, rfl⟩)
  go_ret
  exact ⟨rfl, Below.refl _ _⟩

set_option maxRecDepth 100000 in
theorem law_core (a : Option Addr) (len cap : Nat) (zs : List Int) (w : World) (hl : len ≤ 1048576) (h : IsRow .u8 w a len cap zs) :
    Calls Try.prog 3 #[.slice a len cap] w fun e w' => e = .returned (.bool true) ∧ Below w.heap.size w w' := by
  have HR : Hid _ := h
  clear h
  go_enter Try.func3, Try.ntmps3
  go_upto_region 6 with (first | (go_at_call 8; refine (bytes8_ok _ _ _ _ hl).mono ?_; rintro e w' ⟨rfl, rfl⟩) | (go_at_call 9; refine (copy_any a len cap zs _ hl HR.out).mono ?_; rintro e w2 ⟨a2, rfl, hC, hB⟩))
  obtain ⟨F, hF⟩ : ∃ F : Nat → Int, F = fun i => zs.getD i 0 := ⟨_, rfl⟩
  rw [← hF] at hC
  have HC : Hid (Cells w2 a2 len F) := hC
  have HB : Hid _ := hB
  clear hC hB HR hF
  go_wp2_with (first | (go_at_call 10; refine (zzisnum a2 len len F _ hl HC.out).mono ?_; rintro e w3 ⟨rfl, hB3⟩; have HB3 : Hid _ := hB3; clear hB3) | (go_at_call 11; refine (auto_any a2 len len F _ hl (Cells.keep (w := w2) HC.out HB3.out)).mono ?_; rintro e w' ⟨rfl, rfl⟩))
  go_ret
  exact ⟨by simp, HB.out.trans (HB3.out.mono HB.out.size)⟩
end Go.Proofs.Qxb6000403a.NumLaw
