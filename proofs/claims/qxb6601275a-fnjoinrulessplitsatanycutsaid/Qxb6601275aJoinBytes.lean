/-
  'FnJoinRulesSplitsAtAnyCut': the walks of 'zzBytes..' and 'zzCopyRules'.
-/
import Derived.Test.Qxb6601275aJoinBase
namespace Go.Proofs.Qxb6601275a.JoinLaw
open Go.RowKit
open Join

/-- The call hands back some Boolean. -/
def IsBool (e : Ending) : Prop := ∃ v : Bool, e = .returned (.bool v)

set_option maxRecDepth 100000 in
set_option maxHeartbeats 800000 in
theorem bytes_any (a0 a1 : Option Addr) (len0 cap0 len1 cap1 : Nat) (N R F N' R' F' : Nat → ByteArray) (w : World) (h0 : RulesAt w a0 len0 N R F) (h1 : RulesAt w a1 len1 N' R' F') :
    Calls Try.prog 17 #[.slice a0 len0 cap0, .slice a1 len1 cap1] w fun e w' => IsBool e ∧ w = w' := by
  have H0 : Hid _ := h0
  have H1 : Hid _ := h1
  clear h0 h1
  go_enter Try.func17, Try.ntmps17
  go_wp2
  · go_ret; exact ⟨⟨_, rfl⟩, rfl⟩
  go_loop [5, 6] (fun t i => ∃ (T k : Nat), k ≤ len0 ∧ T ≤ 1048576 ∧ t = .int .i64 T ∧ i = .int .i64 k) (fun _ i => len0 - (intOf i).toNat)
  case atStart => exact ⟨len0, 0, by omega, by omega, rfl, rfl⟩
  case round =>
    obtain ⟨T, k, hk, hT, rfl, rfl⟩ := hrel
    by_cases hlt : k < len0
    · obtain ⟨b, off, rfl, hbl, hr⟩ := H0.out (by omega)
      obtain ⟨c0, c1, c2⟩ := hr k hlt
      clear hr
      go_wp2
      all_goals first | (go_ret; exact ⟨⟨_, rfl⟩, rfl⟩) | skip
      go_round
      case rel => exact ⟨T + (N k).size + (R k).size + (F k).size, k + 1, by omega, by omega, by go_num, by go_num⟩
      case measure => simp [intOf]; omega
    · go_wp2
      all_goals first | (go_ret; exact ⟨⟨_, rfl⟩, rfl⟩) | skip
      go_loop [5, 7] (fun t i => ∃ (T k : Nat), k ≤ len1 ∧ T ≤ 1048576 ∧ t = .int .i64 T ∧ i = .int .i64 k) (fun _ i => len1 - (intOf i).toNat)
      case atStart => exact ⟨T + len1, 0, by omega, by omega, by go_num, rfl⟩
      case round =>
        obtain ⟨T', k', hk', hT', rfl, rfl⟩ := hrel
        by_cases hlt' : k' < len1
        · obtain ⟨b, off, rfl, hbl, hr⟩ := H1.out (by omega)
          obtain ⟨c0, c1, c2⟩ := hr k' hlt'
          clear hr
          go_wp2
          all_goals first | (go_ret; exact ⟨⟨_, rfl⟩, rfl⟩) | skip
          go_round
          case rel => exact ⟨T' + (N' k').size + (R' k').size + (F' k').size, k' + 1, by omega, by omega, by go_num, by go_num⟩
          case measure => simp [intOf]; omega
        · go_wp2
          go_ret; exact ⟨⟨_, rfl⟩, rfl⟩
end Go.Proofs.Qxb6601275a.JoinLaw
