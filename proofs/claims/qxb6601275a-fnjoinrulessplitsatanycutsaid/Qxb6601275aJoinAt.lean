/-
  'FnJoinRulesSplitsAtAnyCut': what the walk of 'joinRules' knows of its world.
-/
import Derived.Test.Qxb6601275aJoinMake
import Derived.Test.Qxb6601275aBuild
namespace Go.Proofs.Qxb6601275a.JoinLaw
open Go.RowKit
open Join

/-- A slice of n pointers to rules. -/
def PtrsAt (w : World) (pb n : Nat) (P : Nat → Nat) (N R F : Nat → ByteArray) : Prop :=
  pb < w.heap.size ∧ ∀ i, i < n → w.cell? ⟨pb, i, none⟩ = some (.pointer (some ⟨P i, 0, none⟩)) ∧ P i < w.heap.size ∧ RuleAt w (P i) (N i) (R i) (F i)

theorem PtrsAt.keep {w w' : World} {pb n : Nat} {P : Nat → Nat} {N R F : Nat → ByteArray} (h : PtrsAt w pb n P N R F) (hb : Below w.heap.size w w') : PtrsAt w' pb n P N R F :=
  ⟨Nat.lt_of_lt_of_le h.1 hb.size, fun i hi => ⟨(hb.cell (p := ⟨pb, i, none⟩) h.1).trans (h.2 i hi).1, Nat.lt_of_lt_of_le (h.2 i hi).2.1 hb.size, (h.2 i hi).2.2.of_block (hb.block _ (h.2 i hi).2.1)⟩⟩

theorem MkAt.ptrs {w w' : World} {g n : Nat} {P : Nat → Nat} {N R F : Nat → ByteArray} (h : MkAt w g n n P N R F w') : PtrsAt w' g n P N R F := by
  obtain ⟨c, hrow, hc⟩ := h.row
  exact ⟨hrow.lt, fun i hi => ⟨by rw [hrow.cell hi, hc i hi], (h.rules i hi).2.1, (h.rules i hi).1⟩⟩

theorem wt_mono (N R F : Nat → ByteArray) {k n : Nat} (h : k ≤ n) : wt N R F k ≤ wt N R F n := by
  induction n with
  | zero => obtain rfl : k = 0 := by omega
            exact Nat.le_refl _
  | succ n ih =>
    by_cases e : k = n + 1
    · subst e; exact Nat.le_refl _
    · have := ih (by omega)
      rw [wt_succ]; omega

/-- The builder, and what it holds. -/
def Bld (b : Nat) (l : Str) (w : World) : Prop := Lib.IsBuilder 50 5 b b (Lib.byteCells l) w

theorem bld_of {b : Nat} {l : Str} {bs : List Value} {w : World} (h : Lib.BuilderAt 50 5 b b (.pointer (some ⟨b, 0, none⟩)) bs w) (e : bs = Lib.byteCells l) : Bld b l w := by
  subst e; exact .inr h

theorem wb {b : Nat} {l : Str} {w : World} (h : Bld b l w) (hl : l.length ≤ 4194304) (hBw : b ≤ w.heap.size) :
    Calls Try.prog 35 #[.pointer (some ⟨b, 0, none⟩), .int .u8 44] w fun e w' => e = .returned .nilIface ∧ Bld b (l ++ [44]) w' ∧ Below b w w' := by
  refine (Build.writeByte_any b b _ 44 w h (by rw [Lib.byteCells_length]; omega) hBw).mono ?_
  rintro e w' ⟨rfl, h1, h2⟩
  exact ⟨rfl, bld_of h1 (by rw [Lib.byteCells_append]; rfl), h2⟩

theorem ws {b : Nat} {l : Str} {w : World} (s : ByteArray) (h : Bld b l w) (hl : l.length ≤ 4194304) (hs : s.size ≤ 4194304) (hBw : b ≤ w.heap.size) :
    Calls Try.prog 32 #[.pointer (some ⟨b, 0, none⟩), .string s] w fun e w' => e = .returned (.tuple #[.int .i64 s.size, .nilIface]) ∧ Bld b (l ++ bts s) w' ∧ Below b w w' := by
  refine (Build.writeString_any b b _ s w h (by rw [Lib.byteCells_length]; omega) hBw).mono ?_
  rintro e w' ⟨rfl, h1, h2⟩
  exact ⟨rfl, bld_of h1 (by rw [Lib.byteCells_append, Lib.strCells_eq]; rfl), h2⟩

theorem wlen {b : Nat} {l : Str} {w : World} (h : Bld b l w) :
    Calls Try.prog 30 #[.pointer (some ⟨b, 0, none⟩)] w fun e w' => e = .returned (.int .i64 l.length) ∧ w = w' := by
  refine (Build.len_any b b _ w h).mono ?_
  rintro e w' ⟨rfl, rfl⟩
  exact ⟨by rw [Lib.byteCells_length], rfl⟩

theorem wstr {b : Nat} {l : Str} {w : World} (h : Bld b l w) (hBw : b ≤ w.heap.size) :
    Calls Try.prog 33 #[.pointer (some ⟨b, 0, none⟩)] w fun e w' => e = .returned (.string ⟨l.toArray⟩) ∧ Below b w w' := Build.string_any b b l w h hBw

theorem wgrow {w : World} (n : Nat) (hn : n ≤ 4194304) :
    Calls Try.prog 31 #[.pointer (some ⟨w.heap.size, 0, none⟩), .int .i64 n] (w.alloc (.cells #[.pointer none, .slice none 0 0] 50)) fun e w' => e = .returned (.tuple #[]) ∧ Bld w.heap.size [] w' ∧ Below w.heap.size w w' := by
  refine (Build.grow_any w.heap.size w.heap.size n _ (Nat.le_refl _) (Deep.blk_alloc_new _ _) (by simp) (by omega)).mono ?_
  rintro e w' ⟨rfl, h1, h2⟩
  exact ⟨rfl, bld_of h1 rfl, ((Below.refl _ _).alloc (Nat.le_refl _) _).trans h2⟩

theorem Bld.lt {b : Nat} {l : Str} {w : World} (h : Bld b l w) : b < w.heap.size := by
  rcases h with h | h <;> exact h.lt

/-- In the rounds that write: the builder, the pointers. -/
structure JoinAt (w : World) (pb n : Nat) (P : Nat → Nat) (N R F : Nat → ByteArray) (b : Nat) (l : Str) (wr : World) : Prop where
  hb : w.heap.size ≤ b
  below : Below w.heap.size w wr
  bld : Bld b l wr

theorem JoinAt.next {w wr w2 : World} {pb n : Nat} {P : Nat → Nat} {N R F : Nat → ByteArray} {b : Nat} {l l2 : Str} (h : JoinAt w pb n P N R F b l wr) (h1 : Bld b l2 w2) (h2 : Below b wr w2) : JoinAt w pb n P N R F b l2 w2 :=
  ⟨h.hb, h.below.trans (h2.mono h.hb), h1⟩
end Go.Proofs.Qxb6601275a.JoinLaw
