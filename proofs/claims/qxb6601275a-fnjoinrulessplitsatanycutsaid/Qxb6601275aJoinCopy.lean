/-
  'FnJoinRulesSplitsAtAnyCut': the walk of 'zzCopyRules'.
-/
import Derived.Test.Qxb6601275aJoinBase
namespace Go.Proofs.Qxb6601275a.JoinLaw
open Go.RowKit
open Join

/-- Cell j of a row of rules. -/
def cell3 (N R F : Nat → ByteArray) (j : Nat) : Value := if j % 3 = 0 then .string (N (j / 3)) else if j % 3 = 1 then .string (R (j / 3)) else .string (F (j / 3))
theorem cell3_0 (N R F : Nat → ByteArray) (k : Nat) : cell3 N R F (k * 3) = .string (N k) := by
  unfold cell3; rw [if_pos (by omega)]; congr 2; omega
theorem cell3_1 (N R F : Nat → ByteArray) (k : Nat) : cell3 N R F (k * 3 + 1) = .string (R k) := by
  unfold cell3; rw [if_neg (by omega), if_pos (by omega)]; congr 2; omega
theorem cell3_2 (N R F : Nat → ByteArray) (k : Nat) : cell3 N R F (k * 3 + 2) = .string (F k) := by
  unfold cell3; rw [if_neg (by omega), if_neg (by omega)]; congr 2; omega

/-- The first k rules are laid. -/
def lay3 (N R F : Nat → ByteArray) (g : Nat → Value) (k : Nat) : Nat → Value := fun j => if j < k * 3 then cell3 N R F j else g j
theorem lay3_step (N R F : Nat → ByteArray) (g : Nat → Value) (k j : Nat) :
    (if j = k * 3 + 2 then .string (F k) else if j = k * 3 + 1 then .string (R k) else if j = k * 3 then .string (N k) else lay3 N R F g k j) = lay3 N R F g (k + 1) j := by
  unfold lay3
  by_cases h2 : j = k * 3 + 2
  · subst h2; rw [if_pos rfl, if_pos (by omega), cell3_2]
  · rw [if_neg h2]
    by_cases h1 : j = k * 3 + 1
    · subst h1; rw [if_pos rfl, if_pos (by omega), cell3_1]
    · rw [if_neg h1]
      by_cases h0 : j = k * 3
      · subst h0; rw [if_pos rfl, if_pos (by omega), cell3_0]
      · rw [if_neg h0]
        by_cases h : j < k * 3
        · rw [if_pos h, if_pos (by omega)]
        · rw [if_neg h, if_neg (by omega)]

theorem rows3_of {w : World} {g n : Nat} {N R F : Nat → ByteArray} {z : Nat → Value} (h : w.rowIs g 44 (n * 3) (lay3 N R F z n)) : Rows3 w g 0 n N R F := by
  intro i hi
  refine ⟨?_, ?_, ?_⟩
  · rw [Nat.zero_add, h.cell (by omega)]; unfold lay3; rw [if_pos (by omega), cell3_0]
  · rw [Nat.zero_add, h.cell (by omega)]; unfold lay3; rw [if_pos (by omega), cell3_1]
  · rw [Nat.zero_add, h.cell (by omega)]; unfold lay3; rw [if_pos (by omega), cell3_2]

theorem info44 : (Try.prog.info? 44).map (fun i => (i.zero, i.size, i.bytes)) = some (some (.agg #[.string ⟨#[]⟩, .string ⟨#[]⟩, .string ⟨#[]⟩]), 3, 48) := by kernel_rfl

/-- A made row, by its cells. -/
theorem made_row {w : World} {base g n : Nat} {xs : List Value} (h : w.ownsRow base 44 3 (.slice (some ⟨g, 0, none⟩) n n) n xs) : ∃ z, w.rowIs g 44 (n * 3) z := by
  obtain ⟨_, ⟨h, _⟩ | ⟨g', cap, cur, hv, _, hg, _, _, hs, _⟩⟩ := h
  · cases h
  · injection hv with e1 e2 e3
    injection e1 with e1
    injection e1 with e1
    subst e1 e3
    exact ⟨fun i => cur.getD i default, cur, hg, hs, fun i hi => by rw [Array.getElem?_eq_getElem (by omega)]; simp [Array.getD, hs, hi]⟩

set_option maxRecDepth 100000 in
theorem copy_some (x : Addr) (len cap : Nat) (N R F : Nat → ByteArray) (w : World) (hlen : len ≤ 65536) (hC : RulesAt w (some x) len N R F) :
    Calls Try.prog 19 #[.slice (some x) len cap] w fun e w' => ∃ a, e = .returned (.slice a len len) ∧ RulesAt w' a len N R F ∧ Below w.heap.size w w' := by
  have heq := fun (w : World) => Lib.run_eql_slice_nil (P := Try.prog) w 31 44 (some x) len cap 0 0 Try.underlying31
  have HC : Hid _ := hC
  clear hC
  obtain ⟨i0, hi, hz0, hz1, hz2⟩ := info_parts info44
  go_enter Try.func19, Try.ntmps19
  go_wp2_with (at_make; refine wpList_make_full _ rfl (.tmp 8) (.tmp 8) 31 rfl w.heap.size 44 i0 _ 3 Try.underlying31 hi hz0 hz1 .i64 .i64 (len : Int) (len : Int) len rfl rfl rfl rfl (by rw [hz2]; omega) (by unfold maxLen; omega) (Nat.le_refl _) ?_; intro w1 hown hgrow)
  obtain ⟨z, hz⟩ := made_row hown
  have hB1 : Below w.heap.size w w1 := (Below.refl _ _).grown hgrow (Nat.le_refl _) (fun k h => by cases h)
  clear hown hgrow heq hi hz0 hz1 hz2
  go_loopw [4] (fun i wr => ∃ k : Nat, k ≤ len ∧ i = .int .i64 k ∧ wr.rowIs w.heap.size 44 (len * 3) (lay3 N R F z k) ∧ Below w.heap.size w wr) (fun i _ => len - (intOf i).toNat)
  case atStart => exact ⟨0, by omega, rfl, hz.congr (fun j _ => by unfold lay3; rw [if_neg (by omega)]), hB1⟩
  case round =>
    clear hz hB1
    obtain ⟨k, hk, rfl, hrow, hB⟩ := hrel
    by_cases hlt : k < len
    · obtain ⟨b, off, e, hbl, hr⟩ := HC.out (by omega)
      injection e with e
      subst e
      obtain ⟨c0, c1, c2⟩ := hr.keep hB hbl k hlt
      have e0 := hrow.cell (i := k * 3) (by omega)
      have e1 := hrow.cell (i := k * 3 + 1) (by omega)
      have e2 := hrow.cell (i := k * 3 + 2) (by omega)
      have f0 := hrow.frozen (k * 3)
      have f1 := hrow.frozen (k * 3 + 1)
      have f2 := hrow.frozen (k * 3 + 2)
      clear hr
      go_wp2
      go_roundw
      case rel => exact ⟨k + 1, by omega, by go_num, (((hrow.set (k * 3) _).set (k * 3 + 1) _).set (k * 3 + 2) _).congr (fun j _ => lay3_step N R F z k j), ((hB.setCell (Nat.le_refl _) _).setCell (Nat.le_refl _) _).setCell (Nat.le_refl _) _⟩
      case measure => simp [intOf]; omega
    · obtain rfl : k = len := by omega
      go_wp2
      go_ret
      exact ⟨_, rfl, fun _ => ⟨w.heap.size, 0, rfl, hrow.lt, rows3_of hrow⟩, hB⟩

theorem copy_nil (N R F : Nat → ByteArray) (w : World) :
    Calls Try.prog 19 #[.slice none 0 0] w fun e w' => ∃ a, e = .returned (.slice a 0 0) ∧ RulesAt w' a 0 N R F ∧ Below w.heap.size w w' := by
  have heq := fun (w : World) => Lib.run_eql_slice_nil (P := Try.prog) w 31 44 none 0 0 0 0 Try.underlying31
  go_enter Try.func19, Try.ntmps19
  go_wp2
  go_ret
  exact ⟨none, rfl, fun h => absurd h (by omega), Below.refl _ _⟩

theorem copy_any (a : Option Addr) (len cap : Nat) (N R F : Nat → ByteArray) (w : World) (hlen : len ≤ 65536) (ha : a = none → len = 0 ∧ cap = 0) (hC : RulesAt w a len N R F) :
    Calls Try.prog 19 #[.slice a len cap] w fun e w' => ∃ a, e = .returned (.slice a len len) ∧ RulesAt w' a len N R F ∧ Below w.heap.size w w' := by
  cases a with
  | none => obtain ⟨rfl, rfl⟩ := ha rfl; exact copy_nil N R F w
  | some x => exact copy_some x len cap N R F w hlen hC
end Go.Proofs.Qxb6601275a.JoinLaw
