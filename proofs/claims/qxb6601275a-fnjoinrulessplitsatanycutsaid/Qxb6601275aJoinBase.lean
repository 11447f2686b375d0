/-
  'FnJoinRulesSplitsAtAnyCut': what is known of a slice of rules; the walks of 'zzRulesSize', 'zzBytes..' and 'zzCopyRules'.
-/
import Derived.Test.Qxb6601275aProg
import Derived.Test.Qxb6601275aJoinPlain
import Derived.WalkKit
import Derived.WalkLawsBesides
import Derived.WalkSpells
import Derived.Deep.OwnRows
import Derived.OpenShut
namespace Go.Proofs.Qxb6601275a.JoinLaw
open Go.RowKit
open Join

/-- A string's bytes. -/
def bts (s : ByteArray) : Str := s.data.toList
theorem bts_len (s : ByteArray) : (bts s).length = s.size := by unfold bts; simp
def strs (N : Nat → ByteArray) : Nat → Str := fun i => bts (N i)

/-- The cells of n rules from an address on. -/
def Rows3 (w : World) (b off n : Nat) (N R F : Nat → ByteArray) : Prop :=
  ∀ i, i < n → w.cell? ⟨b, off + i * 3, none⟩ = some (.string (N i)) ∧ w.cell? ⟨b, off + i * 3 + 1, none⟩ = some (.string (R i)) ∧ w.cell? ⟨b, off + i * 3 + 2, none⟩ = some (.string (F i))

/-- A slice of rules. -/
def RulesAt (w : World) (a : Option Addr) (n : Nat) (N R F : Nat → ByteArray) : Prop := 0 < n → ∃ b off, a = some ⟨b, off, none⟩ ∧ b < w.heap.size ∧ Rows3 w b off n N R F

theorem Rows3.keep {w w' : World} {b off n : Nat} {N R F : Nat → ByteArray} {B : Nat} (h : Rows3 w b off n N R F) (hb : Below B w w') (hl : b < B) : Rows3 w' b off n N R F := fun i hi =>
  ⟨(hb.cell (p := ⟨b, off + i * 3, none⟩) hl).trans (h i hi).1, (hb.cell (p := ⟨b, off + i * 3 + 1, none⟩) hl).trans (h i hi).2.1, (hb.cell (p := ⟨b, off + i * 3 + 2, none⟩) hl).trans (h i hi).2.2⟩

theorem RulesAt.keep {w w' : World} {a : Option Addr} {n : Nat} {N R F : Nat → ByteArray} (h : RulesAt w a n N R F) (hb : Below w.heap.size w w') : RulesAt w' a n N R F := fun hn => by
  obtain ⟨b, off, e, hl, hr⟩ := h hn
  exact ⟨b, off, e, Nat.lt_of_lt_of_le hl hb.size, hr.keep hb hl⟩

/-- What zzRulesSize adds up. -/
def wt (N R F : Nat → ByteArray) (k : Nat) : Nat := 48 * k + tot (strs N) k + tot (strs R) k + tot (strs F) k
theorem wt_succ (N R F : Nat → ByteArray) (k : Nat) : wt N R F (k + 1) = wt N R F k + (48 + (N k).size + (R k).size + (F k).size) := by
  unfold wt; simp only [tot, strs, bts_len]; omega

set_option maxRecDepth 100000 in
theorem size_any (a : Option Addr) (len cap : Nat) (N R F : Nat → ByteArray) (w : World) (hC : RulesAt w a len N R F) :
    Calls Try.prog 18 #[.slice a len cap] w fun e w' => ∃ v : Int, e = .returned (.int .i64 v) ∧ (v = -1 ∨ (0 ≤ v ∧ v ≤ 1048576 ∧ v = wt N R F len)) ∧ Below w.heap.size w w' := by
  have HC : Hid _ := hC
  clear hC
  by_cases hlen : len ≤ 65536
  · go_enter Try.func18, Try.ntmps18
    go_wp2
    go_loopw [3, 4] (fun t i wr => ∃ (T k : Nat), k ≤ len ∧ T ≤ 1048576 ∧ t = .int .i64 T ∧ i = .int .i64 k ∧ Hid (T = wt N R F k) ∧ Below w.heap.size w wr) (fun _ i _ => len - (intOf i).toNat)
    case atStart => exact ⟨0, 0, by omega, by omega, rfl, rfl, (show 0 = wt N R F 0 from rfl), Below.refl _ _⟩
    case round =>
      obtain ⟨T, k, hk, hT1, rfl, rfl, HT, hB⟩ := hrel
      by_cases hlt : k < len
      · obtain ⟨b, off, rfl, hbl, hr⟩ := HC.out (by omega)
        obtain ⟨c0, c1, c2⟩ := hr.keep hB hbl k hlt
        have hB' := fun o => hB.alloc hB.size o
        have HB : Hid _ := hB'
        have hws := wt_succ N R F k
        have HW : Hid _ := hws
        clear hr hB hB' hws
        by_cases s0 : 1048576 < (N k).size
        · go_wp2
          go_ret
          exact ⟨_, rfl, .inl rfl, HB.out _⟩
        by_cases s1 : 1048576 < (R k).size
        · go_wp2
          go_ret
          exact ⟨_, rfl, .inl rfl, HB.out _⟩
        by_cases s2 : 1048576 < (F k).size
        · go_wp2
          go_ret
          exact ⟨_, rfl, .inl rfl, HB.out _⟩
        by_cases s3 : 1048576 < T + (48 + (N k).size + (R k).size + (F k).size)
        · go_wp2
          go_ret
          exact ⟨_, rfl, .inl rfl, HB.out _⟩
        · go_wp2
          go_roundw
          case rel => exact ⟨T + (48 + (N k).size + (R k).size + (F k).size), k + 1, by omega, by omega, by go_num, by go_num, (show _ = _ by rw [HW.out, HT.out]), HB.out _⟩
          case measure => simp [intOf]; omega
      · obtain rfl : k = len := by omega
        go_wp2
        go_ret
        exact ⟨_, rfl, .inr ⟨by omega, by omega, by rw [HT.out]⟩, hB⟩
  · go_enter Try.func18, Try.ntmps18
    go_wp2
    go_ret
    exact ⟨_, rfl, .inl rfl, Below.refl _ _⟩
end Go.Proofs.Qxb6601275a.JoinLaw
