/-
  THE WALKS OF 'zzCopyRunes' AND OF 'FnPathStateReadsWhatItMeans'.
-/
import Derived.Test.Qxb6601275aMeaning
import Derived.Deep.OwnRows
import Derived.OpenShut
namespace Go.Proofs.Qxb6601275a
open Go.RowKit
open Path

/-- WHAT THE WALK IS TOLD OF A SLICE OF INTEGERS THAT CAME IN (the shell's own words). -/
def IsRow (k : IntKind) (w : World) (a : Option Addr) (len cap : Nat) (zs : List Int) : Prop :=
  (a = none ∧ len = 0 ∧ cap = 0 ∧ zs = []) ∨
  ∃ x, a = some x ∧ len ≤ cap ∧ cap ≤ maxLen ∧ zs.length = cap ∧ (∀ i, i < zs.length → w.cell? (x.add i) = some (.int k (zs.getD i 0))) ∧ ∀ n ∈ zs, (Lit.int k n).wf = true

theorem info21 : (Try.prog.info? 21).map (fun i => (i.zero, i.size, i.bytes)) = some (some (.int .i32 0), 1, 4) := by kernel_rfl

theorem cell_lt {w : World} {a : Addr} {v : Value} (h : w.cell? a = some v) : a.block < w.heap.size := by
  rcases Nat.lt_or_ge a.block w.heap.size with h' | h'
  · exact h'
  · simp [World.cell?, Array.getElem?_eq_none h'] at h

/-- What came in, where it has an element. -/
theorem IsRow.lay {k : IntKind} {w : World} {a : Option Addr} {len cap : Nat} {zs : List Int} (h : IsRow k w a len cap zs) (hp : 0 < len) :
    ∃ b off, a = some ⟨b, off, none⟩ ∧ b < w.heap.size ∧ ∀ j, j < len → w.cell? ⟨b, off + j, none⟩ = some (.int k (zs.getD j 0)) := by
  rcases h with ⟨_, h, _⟩ | ⟨x, rfl, hlc, _, hzl, hcell, _⟩
  · omega
  · obtain ⟨b, off, rfl, hc⟩ := ints_at hcell (by omega)
    exact ⟨b, off, rfl, cell_lt (hc 0 (by omega)), fun j hj => hc j (by omega)⟩

/-- A row that is being filled. -/
def fillAt (f : Nat → Int) (k : Nat) : Nat → Value := fun j => if j < k then .int .i32 (f j) else .int .i32 0
theorem fill_set (f : Nat → Int) (k j : Nat) : (if j = k then .int .i32 (f k) else fillAt f k j) = fillAt f (k + 1) j := by
  unfold fillAt
  by_cases e : j = k
  · subst e; rw [if_pos rfl, if_pos (by omega)]
  · rw [if_neg e]
    by_cases e2 : j < k
    · rw [if_pos e2, if_pos (by omega)]
    · rw [if_neg e2, if_neg (by omega)]

set_option maxRecDepth 100000 in
theorem copy_some (x : Addr) (len cap : Nat) (f : Nat → Int) (w : World) (hlen : len ≤ 1048576) (hC : 0 < len → ∃ b off, x = ⟨b, off, none⟩ ∧ b < w.heap.size ∧ ∀ j, j < len → w.cell? ⟨b, off + j, none⟩ = some (.int .i32 (f j))) :
    Calls Try.prog 16 #[.slice (some x) len cap] w fun e w' => ∃ a, e = .returned (.slice a len len) ∧ Cells w' a len f ∧ Below w.heap.size w w' := by
  have heq := fun (w : World) => Lib.run_eql_slice_nil (P := Try.prog) w 25 21 (some x) len cap 0 0 Try.underlying25
  have hmk := fun (w : World) => run_make_row' (P := Try.prog) 25 21 (.int .i32 0) 4 Try.underlying25 info21 rfl .i64 .i64 len (by omega) (by omega) w
  have HC : Hid _ := hC
  clear hC
  go_enter Try.func16, Try.ntmps16
  go_wp2
  clear heq hmk
  go_loopw [4] (fun i wr => ∃ k : Nat, k ≤ len ∧ i = .int .i64 k ∧ wr.rowIs w.heap.size 21 len (fillAt f k) ∧ Below w.heap.size w wr) (fun i _ => len - (intOf i).toNat)
  case atStart => exact ⟨0, by omega, rfl, (World.rowIs_made w (.int .i32 0) len 21).congr (fun j _ => by unfold fillAt; rw [if_neg (by omega)]), (Below.refl _ _).alloc (Nat.le_refl _) _⟩
  case round =>
    obtain ⟨k, hk, rfl, hrow, hb⟩ := hrel
    by_cases hlt : k < len
    · obtain ⟨b, off, rfl, hbl, hc⟩ := HC.out (by omega)
      have hc1 : wr.cell? ⟨b, off + k, none⟩ = some (.int .i32 (f k)) := (hb.cell hbl).trans (hc k hlt)
      have hc2 := hrow.cell hlt
      have hf2 := hrow.frozen k
      clear hc
      go_wp2
      go_roundw
      case rel => exact ⟨k + 1, by omega, by go_num, (hrow.set k _).congr (fun j _ => fill_set f k j), hb.setCell (Nat.le_refl _) _⟩
      case measure => simp [intOf]; omega
    · obtain rfl : k = len := by omega
      go_wp2
      go_ret
      refine ⟨_, rfl, fun _ => ⟨w.heap.size, 0, rfl, fun j hj => ?_⟩, hb⟩
      rw [Nat.zero_add, hrow.cell hj]
      unfold fillAt
      rw [if_pos hj]

theorem copy_nil (f : Nat → Int) (w : World) :
    Calls Try.prog 16 #[.slice none 0 0] w fun e w' => ∃ a, e = .returned (.slice a 0 0) ∧ Cells w' a 0 f ∧ Below w.heap.size w w' := by
  have heq := fun (w : World) => Lib.run_eql_slice_nil (P := Try.prog) w 25 21 none 0 0 0 0 Try.underlying25
  go_enter Try.func16, Try.ntmps16
  go_wp2
  go_ret
  exact ⟨none, rfl, fun h => absurd h (by omega), Below.refl _ _⟩

theorem copy_any (a : Option Addr) (len cap : Nat) (zs : List Int) (w : World) (hlen : len ≤ 1048576) (h : IsRow .i32 w a len cap zs) :
    Calls Try.prog 16 #[.slice a len cap] w fun e w' => ∃ a, e = .returned (.slice a len len) ∧ Cells w' a len (fun i => zs.getD i 0) ∧ Below w.heap.size w w' := by
  have hl := h.lay
  rcases h with ⟨rfl, rfl, rfl, rfl⟩ | ⟨x, rfl, _⟩
  · exact copy_nil _ w
  · refine copy_some x len cap _ w hlen (fun hp => ?_)
    obtain ⟨b, off, e, h1, h2⟩ := hl hp
    injection e with e
    exact ⟨b, off, e, h1, h2⟩

theorem bytes15_ok (a : Option Addr) (len cap : Nat) (w : World) (hl : len ≤ 1048576) :
    Calls Try.prog 15 #[.slice a len cap] w fun e w' => e = .returned (.bool true) ∧ w = w' := by
  go_enter Try.func15, Try.ntmps15
  go_wp2
  go_ret
  exact ⟨rfl, rfl⟩

set_option maxRecDepth 100000 in
theorem reads_long (a : Option Addr) (len cap : Nat) (w : World) (hl : ¬ len ≤ 65536) :
    Calls Try.prog 6 #[.slice a len cap] w fun e w' => e = .returned (.bool true) ∧ Below w.heap.size w w' := by
  by_cases h1 : len ≤ 1048576
  · go_enter Try.func6, Try.ntmps6
    go_wp2
    go_ret
    exact ⟨rfl, Below.refl _ _⟩
  · go_enter Try.func6, Try.ntmps6
    go_wp2
    go_ret
    exact ⟨rfl, Below.refl _ _⟩

set_option maxRecDepth 100000 in
theorem reads_core (a : Option Addr) (len cap : Nat) (zs : List Int) (w : World) (hl : len ≤ 65536) (h : IsRow .i32 w a len cap zs) :
    Calls Try.prog 6 #[.slice a len cap] w fun e w' => e = .returned (.bool true) ∧ Below w.heap.size w w' := by
  have HR : Hid _ := h
  clear h
  go_enter Try.func6, Try.ntmps6
  go_wp2_with (first | (go_at_call 15; refine (bytes15_ok _ _ _ _ (by omega)).mono ?_; rintro e w' ⟨rfl, rfl⟩) | (go_at_call 16; refine (copy_any a len cap zs _ (by omega) HR.out).mono ?_; rintro e w2 ⟨a2, rfl, hC, hB⟩))
  obtain ⟨F, hF⟩ : ∃ F : Nat → Int, F = fun i => zs.getD i 0 := ⟨_, rfl⟩
  rw [← hF] at hC
  have HC : Hid _ := hC
  clear hC HR hF
  go_loop [3, 4] (fun st i => ∃ k : Nat, k ≤ len ∧ i = .int .i64 k ∧ st = .int .u8 (run F k)) (fun _ i => len - (intOf i).toNat)
  case atStart => exact ⟨0, by omega, rfl, rfl⟩
  case round =>
    obtain ⟨k, hk, rfl, rfl⟩ := hrel
    by_cases hlt : k < len
    · obtain ⟨b, off, rfl, hc⟩ := HC.out (by omega)
      have hck := hc k hlt
      clear hc
      go_wp2_with (go_at_call 12; refine (zznext_any _ _ _).mono ?_; rintro e w' ⟨rfl, rfl⟩)
      go_round
      case rel => exact ⟨k + 1, by omega, by go_num, rfl⟩
      case measure => simp [intOf]; omega
    · obtain rfl : k = len := by omega
      go_wp2_with (go_at_call 14; refine (meaning_any _ _ _ F _ (by omega) (Nat.le_refl _) HC.out).mono ?_; rintro e w' ⟨rfl, rfl⟩)
      go_ret
      exact ⟨by simp, hB⟩
end Go.Proofs.Qxb6601275a
