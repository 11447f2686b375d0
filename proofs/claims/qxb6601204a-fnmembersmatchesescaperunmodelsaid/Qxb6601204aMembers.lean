/-
  'members' and its model: both count as the plain function 'mem' does.
-/
import Derived.Test.Qxb6601204aProg
import Derived.WalkKit
import Derived.WalkLawsBesides
import Derived.WalkSpells
namespace Go.Proofs.Qxb6601204a
open Go.RowKit

/-- r bytes are left, the next is byte i; 'skip': it is escaped; 't': inside a text. -/
def mem (f : Nat → Int) : Nat → Nat → Bool → Bool → Int
  | 0, _, _, _ => 0
  | r + 1, i, true, t => mem f r (i + 1) false t
  | r + 1, i, false, t => if f i = 34 then mem f r (i + 1) false (!t) else if f i = 92 then mem f r (i + 1) true t else if f i = 58 ∧ t = false then 1 + mem f r (i + 1) false t else mem f r (i + 1) false t

theorem mem_nil (f : Nat → Int) (i : Nat) (s t : Bool) : mem f 0 i s t = 0 := by cases s <;> rfl
theorem mem_esc (f : Nat → Int) (r i : Nat) (t : Bool) : mem f r i true t = mem f (r - 1) (i + 1) false t := by
  cases r with
  | zero => rw [mem_nil]; exact (mem_nil _ _ _ _).symm
  | succ r => rfl
theorem mem_go (f : Nat → Int) (r i : Nat) (t : Bool) (h : 0 < r) : mem f r i false t = if f i = 34 then mem f (r - 1) (i + 1) false (!t) else if f i = 92 then mem f (r - 1) (i + 1) true t else if f i = 58 ∧ t = false then 1 + mem f (r - 1) (i + 1) false t else mem f (r - 1) (i + 1) false t := by
  cases r with
  | zero => omega
  | succ r => rfl

/-- Where the count stands: n so far, and the rest. -/
def Cnt (f : Nat → Int) (len i : Nat) (s t : Bool) (n : Int) : Prop := n + mem f (len - i) i s t = mem f len 0 false false

section
variable {f : Nat → Int} {len i : Nat} {t : Bool} {n : Int}
theorem Cnt.start : Cnt f len 0 false false 0 := by unfold Cnt; simp
theorem Cnt.last {s : Bool} (h : Cnt f len i s t n) (hi : len ≤ i) : n = mem f len 0 false false := by
  unfold Cnt at h; rw [show len - i = 0 by omega, mem_nil] at h; omega
theorem Cnt.quote (h : Cnt f len i false t n) (hi : i < len) (hc : f i = 34) : Cnt f len (i + 1) false (!t) n := by
  unfold Cnt at *; rw [mem_go _ _ _ _ (by omega), if_pos hc, Nat.sub_sub] at h; exact h
theorem Cnt.slash (h : Cnt f len i false t n) (hi : i < len) (hc : f i = 92) : Cnt f len (i + 1) true t n := by
  unfold Cnt at *; rw [mem_go _ _ _ _ (by omega), if_neg (by omega), if_pos hc, Nat.sub_sub] at h; exact h
theorem Cnt.colon (h : Cnt f len i false false n) (hi : i < len) (hc : f i = 58) : Cnt f len (i + 1) false false (n + 1) := by
  unfold Cnt at *; rw [mem_go _ _ _ _ (by omega), if_neg (by omega), if_neg (by omega), if_pos ⟨hc, rfl⟩, Nat.sub_sub] at h; omega
theorem Cnt.inText (h : Cnt f len i false true n) (hi : i < len) (hc : f i = 58) : Cnt f len (i + 1) false true n := by
  unfold Cnt at *; rw [mem_go _ _ _ _ (by omega), if_neg (by omega), if_neg (by omega), if_neg (by simp), Nat.sub_sub] at h; exact h
theorem Cnt.other (h : Cnt f len i false t n) (hi : i < len) (h1 : ¬ f i = 34) (h2 : ¬ f i = 92) (h3 : ¬ f i = 58) : Cnt f len (i + 1) false t n := by
  unfold Cnt at *; rw [mem_go _ _ _ _ (by omega), if_neg h1, if_neg h2, if_neg (by omega), Nat.sub_sub] at h; exact h
theorem Cnt.esc (h : Cnt f len i true t n) : Cnt f len (i + 1) false t n := by
  unfold Cnt at *; rw [mem_esc, Nat.sub_sub] at h; exact h
end

theorem ret_int {k : IntKind} {a b : Int} (h : a = b) : Ending.returned (.int k a) = .returned (.int k b) := by rw [h]

/-- The bytes that a slice leads to. -/
def Bytes (w : World) (a : Option Addr) (len : Nat) (f : Nat → Int) : Prop := 0 < len → ∃ b off, a = some ⟨b, off, none⟩ ∧ ∀ j, j < len → w.cell? ⟨b, off + j, none⟩ = some (.int .u8 (f j))

set_option maxHeartbeats 1600000 in
theorem members_any (a : Option Addr) (len cap : Nat) (f : Nat → Int) (w : World) (hlen : len ≤ 1048576) (hB : Bytes w a len f) :
    Calls Try.prog 17 #[.slice a len cap] w fun e w' => e = .returned (.int .i64 (mem f len 0 false false)) ∧ w = w' := by
  have HB : Hid _ := hB
  clear hB
  go_enter Try.func17, Try.ntmps17
  go_wp2
  go_loop [3, 4, 5] (fun n t i => ∃ (m : Int) (tt : Bool) (k : Nat), k ≤ len + 1 ∧ 0 ≤ m ∧ m ≤ k ∧ n = .int .i64 m ∧ t = .bool tt ∧ i = .int .i64 k ∧ Hid (Cnt f len k false tt m)) (fun _ _ i => len - (intOf i).toNat)
  case atStart => exact ⟨0, false, 0, by omega, by omega, by omega, rfl, rfl, rfl, Cnt.start⟩
  case round =>
    obtain ⟨m, tt, k, hk, hm0, hmk, rfl, rfl, rfl, hC⟩ := hrel
    by_cases hlt : k < len
    · obtain ⟨b, off, rfl, hcell⟩ := HB.out (by omega)
      have hc := hcell k hlt
      clear hcell
      by_cases c1 : f k = 34
      · rw [c1] at hc
        go_wp2
        go_round
        case rel => exact ⟨m, !tt, k + 1, by omega, by omega, by omega, rfl, rfl, by go_num, hC.out.quote hlt c1⟩
        case measure => simp [intOf]; omega
      by_cases c2 : f k = 92
      · rw [c2] at hc
        clear c1
        go_wp2
        go_round
        case rel => exact ⟨m, tt, k + 1 + 1, by omega, by omega, by omega, rfl, rfl, by go_num, (hC.out.slash hlt c2).esc⟩
        case measure => simp [intOf]; omega
      by_cases c3 : f k = 58
      · rw [c3] at hc
        clear c1 c2
        cases tt
        · go_wp2
          go_round
          case rel => exact ⟨m + 1, false, k + 1, by omega, by omega, by omega, rfl, rfl, by go_num, hC.out.colon hlt c3⟩
          case measure => simp [intOf]; omega
        · go_wp2
          go_round
          case rel => exact ⟨m, true, k + 1, by omega, by omega, by omega, rfl, rfl, by go_num, hC.out.inText hlt c3⟩
          case measure => simp [intOf]; omega
      have d1 : (f k == 34) = false := by simp [c1]
      have d2 : (f k == 92) = false := by simp [c2]
      have d3 : (f k == 58) = false := by simp [c3]
      have HO : Hid _ := hC.out.other hlt c1 c2 c3
      clear c1 c2 c3
      go_wp2
      go_round
      case rel => exact ⟨m, tt, k + 1, by omega, by omega, by omega, rfl, rfl, by go_num, HO.out⟩
      case measure => simp [intOf]; omega
    · go_wp2
      go_ret
      exact ⟨ret_int (hC.out.last (by omega)), rfl⟩

theorem zzmembers_any (a : Option Addr) (len cap : Nat) (f : Nat → Int) (w : World) (hlen : len ≤ 1048576) (hB : Bytes w a len f) :
    Calls Try.prog 9 #[.slice a len cap] w fun e w' => e = .returned (.int .i64 (mem f len 0 false false)) ∧ w = w' := by
  go_enter Try.func9, Try.ntmps9
  go_wp2_with fail
  refine (members_any a len cap f _ hlen hB).mono ?_
  rintro e w' ⟨rfl, rfl⟩
  go_wp2
  go_ret
  exact ⟨rfl, rfl⟩

set_option maxHeartbeats 1600000 in
theorem model_any (a : Option Addr) (len cap : Nat) (f : Nat → Int) (w : World) (hlen : len ≤ 1048576) (hB : Bytes w a len f) :
    Calls Try.prog 10 #[.slice a len cap] w fun e w' => e = .returned (.int .i64 (mem f len 0 false false)) ∧ w = w' := by
  have HB : Hid _ := hB
  clear hB
  go_enter Try.func10, Try.ntmps10
  go_wp2
  go_loop [3, 4, 5, 6] (fun n t s i => ∃ (m : Int) (tt ss : Bool) (k : Nat), k ≤ len ∧ 0 ≤ m ∧ m ≤ k ∧ n = .int .i64 m ∧ t = .bool tt ∧ s = .bool ss ∧ i = .int .i64 k ∧ Hid (Cnt f len k ss tt m)) (fun _ _ _ i => len - (intOf i).toNat)
  case atStart => exact ⟨0, false, false, 0, by omega, by omega, by omega, rfl, rfl, rfl, rfl, Cnt.start⟩
  case round =>
    obtain ⟨m, tt, ss, k, hk, hm0, hmk, rfl, rfl, rfl, rfl, hC⟩ := hrel
    by_cases hlt : k < len
    · obtain ⟨b, off, rfl, hcell⟩ := HB.out (by omega)
      have hc := hcell k hlt
      clear hcell
      cases ss
      · by_cases c1 : f k = 34
        · rw [c1] at hc
          go_wp2
          go_round
          case rel => exact ⟨m, !tt, false, k + 1, by omega, by omega, by omega, rfl, rfl, rfl, by go_num, hC.out.quote hlt c1⟩
          case measure => simp [intOf]; omega
        by_cases c2 : f k = 92
        · rw [c2] at hc
          clear c1
          go_wp2
          go_round
          case rel => exact ⟨m, tt, true, k + 1, by omega, by omega, by omega, rfl, rfl, rfl, by go_num, hC.out.slash hlt c2⟩
          case measure => simp [intOf]; omega
        by_cases c3 : f k = 58
        · rw [c3] at hc
          clear c1 c2
          cases tt
          · go_wp2
            go_round
            case rel => exact ⟨m + 1, false, false, k + 1, by omega, by omega, by omega, rfl, rfl, rfl, by go_num, hC.out.colon hlt c3⟩
            case measure => simp [intOf]; omega
          · go_wp2
            go_round
            case rel => exact ⟨m, true, false, k + 1, by omega, by omega, by omega, rfl, rfl, rfl, by go_num, hC.out.inText hlt c3⟩
            case measure => simp [intOf]; omega
        have d1 : (f k == 34) = false := by simp [c1]
        have d2 : (f k == 92) = false := by simp [c2]
        have d3 : (f k == 58) = false := by simp [c3]
        have HO : Hid _ := hC.out.other hlt c1 c2 c3
        clear c1 c2 c3
        go_wp2
        go_round
        case rel => exact ⟨m, tt, false, k + 1, by omega, by omega, by omega, rfl, rfl, rfl, by go_num, HO.out⟩
        case measure => simp [intOf]; omega
      · by_cases c2 : f k = 92
        · rw [c2] at hc
          go_wp2
          go_round
          case rel => exact ⟨m, tt, false, k + 1, by omega, by omega, by omega, rfl, rfl, rfl, by go_num, hC.out.esc⟩
          case measure => simp [intOf]; omega
        · have d2 : (f k == 92) = false := by simp [c2]
          clear c2
          go_wp2
          go_round
          case rel => exact ⟨m, tt, false, k + 1, by omega, by omega, by omega, rfl, rfl, rfl, by go_num, hC.out.esc⟩
          case measure => simp [intOf]; omega
    · go_wp2
      go_ret
      exact ⟨ret_int (hC.out.last (by omega)), rfl⟩
end Go.Proofs.Qxb6601204a
