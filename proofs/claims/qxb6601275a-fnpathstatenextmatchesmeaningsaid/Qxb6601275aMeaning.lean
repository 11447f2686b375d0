/-
  THE WALK OF 'zzMeaning': it answers the automaton's state.
-/
import Derived.Test.Qxb6601275aPathWalks
import Derived.Deep.DeepCutAuto
namespace Go.Proofs.Qxb6601275a
open Go.RowKit
open Path

def drive (f : Nat → Int) (len : Nat) : Bool := decide (2 ≤ len ∧ letter (f 0) = true ∧ f 1 = 58)

set_option maxRecDepth 100000 in
set_option maxHeartbeats 1600000 in
theorem meaning_some (b off len cap : Nat) (f : Nat → Int) (w : World) (hp : 0 < len) (hlen : len ≤ 1048576) (hcap : len ≤ cap) (hC : ∀ j, j < len → w.cell? ⟨b, off + j, none⟩ = some (.int .i32 (f j))) :
    Calls Try.prog 14 #[.slice (some ⟨b, off, none⟩) len cap] w fun e w' => e = .returned (.int .u8 (run f len)) ∧ w = w' := by
  have hl0 : ((len : Int) == 0) = false := by simp; omega
  have c0 := hC 0 hp
  simp only [Nat.add_zero] at c0
  have HC : Hid _ := hC
  clear hC
  go_enter Try.func14, Try.ntmps14
  go_wp2
  go_loop [3] (fun i => ∃ k : Nat, k ≤ len ∧ i = .int .i64 k ∧ Hid (∀ j, j < k → f j ≠ 92)) (fun i => len - (intOf i).toNat)
  case atStart => exact ⟨0, by omega, rfl, fun j h => absurd h (by omega)⟩
  case round =>
    obtain ⟨k, hk, rfl, HK⟩ := hrel
    by_cases hlt : k < len
    · have hc := HC.out k hlt
      by_cases d : f k = 92
      · rw [d] at hc
        go_wp2
        go_ret
        exact ⟨ret_int (run_bs d hlt).symm, rfl⟩
      · have d' : (f k == 92) = false := by simp [d]
        have HD : Hid _ := d
        clear d
        go_wp2
        go_round
        case rel => exact ⟨k + 1, by omega, by go_num, fun j hj => by
          rcases Nat.lt_or_ge j k with h | h
          · exact HK.out j h
          · obtain rfl : j = k := by omega
            exact HD.out⟩
        case measure => simp [intOf]; omega
    · obtain rfl : k = len := by omega
      by_cases t0 : f 0 = 126
      · rw [t0] at c0
        go_wp2
        go_ret
        exact ⟨ret_int (run_tilde t0 hp).symm, rfl⟩
      have t0' : (f 0 == 126) = false := by simp [t0]
      have H0 : Hid _ := t0
      clear t0
      go_upto_region 10 with fail
      go_cut [39] (fun v wx => v = .bool (drive f k) ∧ wx = w)
      case first =>
        by_cases l2 : 2 ≤ k
        · have c1 := HC.out 1 (by omega)
          by_cases l3 : letter (f 0) = true
          · by_cases l4 : f 1 = 58
            · have E : Hid (drive f k = true) := decide_eq_true ⟨l2, l3, l4⟩
              rw [l4] at c1
              clear l4
              go_wp2_with (go_at_call 24; refine (zzletter_any _ _).mono ?_; rintro e w' ⟨rfl, rfl⟩)
              go_meet
              case rel => exact ⟨by rw [E.out], rfl⟩
            · have E : Hid (drive f k = false) := decide_eq_false (fun h => l4 h.2.2)
              have l4' : (f 1 == 58) = false := by simp [l4]
              clear l4
              go_wp2_with (go_at_call 24; refine (zzletter_any _ _).mono ?_; rintro e w' ⟨rfl, rfl⟩)
              go_meet
              case rel => exact ⟨by rw [E.out], rfl⟩
          · have E : Hid (drive f k = false) := decide_eq_false (fun h => l3 h.2.1)
            have l3' : letter (f 0) = false := by simpa using l3
            clear l3
            go_wp2_with (go_at_call 24; refine (zzletter_any _ _).mono ?_; rintro e w' ⟨rfl, rfl⟩)
            go_meet
            case rel => exact ⟨by rw [E.out], rfl⟩
        · have E : Hid (drive f k = false) := decide_eq_false (fun h => l2 h.1)
          go_wp2
          go_meet
          case rel => exact ⟨by rw [E.out], rfl⟩
      case rest =>
        obtain ⟨rfl, rfl⟩ := hcut
        by_cases hd : drive f k = true
        · rw [hd]
          go_wp2
          go_ret
          exact ⟨ret_int (by obtain ⟨a, b, c⟩ := of_decide_eq_true hd; exact (run_drive b c a).symm), rfl⟩
        · have hd' : drive f k = false := by simpa using hd
          have H1 : Hid _ := of_decide_eq_false hd'
          rw [hd']
          clear hd hd'
          go_wp2
          go_loop [4, 5] (fun st i => ∃ s i' : Nat, i' ≤ k ∧ s ≤ i' ∧ st = .int .i64 s ∧ i = .int .i64 i' ∧ Hid (At f s i')) (fun _ i => k - (intOf i).toNat)
          case atStart => exact ⟨0, 0, by omega, by omega, rfl, rfl, At.start f⟩
          case round =>
            obtain ⟨s, i, hi, hsi, rfl, rfl, HA⟩ := hrel
            by_cases hlt2 : i < k
            · have hc := HC.out i hlt2
              by_cases d : f i = 47
              · rw [d] at hc
                have HD : Hid _ := d
                clear d
                by_cases ho : okSeg f s i = true
                · go_wp2_with (go_at_call 25; refine (seg_any b (off + s) (i - s) (cap - s) f s _ (by omega) (fun j hj => by have := HC.out (s + j) (by omega); rw [Nat.add_assoc]; exact this)).mono ?_; rintro e w' ⟨rfl, rfl⟩)
                  go_round
                  case rel => exact ⟨i + 1, i + 1, by omega, by omega, by go_num, by go_num, HA.out.close HD.out ho⟩
                  case measure => simp [intOf]; omega
                · have ho' : okSeg f s i = false := by simpa using ho
                  clear ho
                  go_wp2_with (go_at_call 25; refine (seg_any b (off + s) (i - s) (cap - s) f s _ (by omega) (fun j hj => by have := HC.out (s + j) (by omega); rw [Nat.add_assoc]; exact this)).mono ?_; rintro e w' ⟨rfl, rfl⟩)
                  go_ret
                  exact ⟨ret_int (HA.out.bad HD.out ho' hlt2).symm, rfl⟩
              · have d' : (f i == 47) = false := by simp [d]
                have HD : Hid _ := d
                clear d
                go_wp2
                go_round
                case rel => exact ⟨s, i + 1, by omega, by omega, rfl, by go_num, HA.out.step (HK.out i hlt2) HD.out H0.out (fun e h => H1.out ⟨by omega, h.1, h.2⟩)⟩
                case measure => simp [intOf]; omega
            · obtain rfl : i = k := by omega
              clear hl0 c0 t0' H1 H0 HK
              by_cases n0 : i = s
              · subst n0
                have HO : Hid _ := HA.out.slash (by omega) rfl
                clear HA HC
                go_wp2
                all_goals go_ret
                all_goals exact ⟨ret_int HO.out.symm, rfl⟩
              by_cases n1 : i = s + 1
              · have cs := HC.out s (by omega)
                subst n1
                clear n0 HC
                by_cases z : s = 0
                · subst z
                  simp only [Nat.add_zero] at cs
                  by_cases hl : letter (f 0) = true
                  · go_wp2_with (go_at_call 24; refine (zzletter_any _ _).mono ?_; rintro e w' ⟨rfl, rfl⟩)
                    all_goals go_ret
                    all_goals exact ⟨ret_int (HA.out.letter rfl rfl hl).symm, rfl⟩
                  · have hl' : letter (f 0) = false := by simpa using hl
                    have HO : Hid _ := HA.out.one rfl (fun _ => hl')
                    clear hl HA
                    by_cases d : f 0 = 46
                    · rw [d] at cs
                      rw [d] at hl'
                      have HO2 : Hid _ := HO.out.trans (if_pos d)
                      clear d HO
                      go_wp2_with (go_at_call 24; refine (zzletter_any _ _).mono ?_; rintro e w' ⟨rfl, rfl⟩)
                      all_goals go_ret
                      all_goals exact ⟨ret_int HO2.out.symm, rfl⟩
                    · have d' : (f 0 == 46) = false := by simp [d]
                      have HO2 : Hid _ := HO.out.trans (if_neg d)
                      clear d HO
                      go_wp2_with (go_at_call 24; refine (zzletter_any _ _).mono ?_; rintro e w' ⟨rfl, rfl⟩)
                      all_goals go_ret
                      all_goals exact ⟨ret_int HO2.out.symm, rfl⟩
                · have HO : Hid _ := HA.out.one rfl (fun h => absurd h z)
                  have z' : ((s : Int) == 0) = false := by simp [z]
                  clear HA
                  by_cases d : f s = 46
                  · rw [d] at cs
                    have HO2 : Hid _ := HO.out.trans (if_pos d)
                    clear d HO
                    go_wp2
                    all_goals go_ret
                    all_goals exact ⟨ret_int HO2.out.symm, rfl⟩
                  · have d' : (f s == 46) = false := by simp [d]
                    have HO2 : Hid _ := HO.out.trans (if_neg d)
                    clear d HO
                    go_wp2
                    all_goals go_ret
                    all_goals exact ⟨ret_int HO2.out.symm, rfl⟩
              by_cases n2 : i = s + 2
              · have cs := HC.out s (by omega)
                have cs1 := HC.out (s + 1) (by omega)
                rw [← Nat.add_assoc] at cs1
                subst n2
                have HO : Hid _ := HA.out.two rfl
                clear HA n0 n1 HC
                by_cases z : s = 0
                · subst z
                  simp only [Nat.add_zero, Nat.zero_add] at cs cs1 HO
                  by_cases d : f 0 = 46
                  · rw [d] at cs
                    by_cases d1 : f 1 = 46
                    · rw [d1] at cs1
                      have HO2 : Hid _ := HO.out.trans (if_pos ⟨d, d1⟩)
                      clear d d1 HO
                      go_wp2
                      all_goals go_ret
                      all_goals exact ⟨ret_int HO2.out.symm, rfl⟩
                    · have d' : (f 1 == 46) = false := by simp [d1]
                      have HO2 : Hid _ := HO.out.trans (if_neg (fun h => d1 h.2))
                      clear d d1 HO
                      go_wp2
                      all_goals go_ret
                      all_goals exact ⟨ret_int HO2.out.symm, rfl⟩
                  · have d' : (f 0 == 46) = false := by simp [d]
                    have HO2 : Hid _ := HO.out.trans (if_neg (fun h => d h.1))
                    clear d HO
                    go_wp2
                    all_goals go_ret
                    all_goals exact ⟨ret_int HO2.out.symm, rfl⟩
                have z' : ((s : Int) == 0) = false := by simp [z]
                by_cases d : f s = 46
                · rw [d] at cs
                  by_cases d1 : f (s + 1) = 46
                  · rw [d1] at cs1
                    have HO2 : Hid _ := HO.out.trans (if_pos ⟨d, d1⟩)
                    clear d d1 HO
                    go_wp2
                    all_goals go_ret
                    all_goals exact ⟨ret_int HO2.out.symm, rfl⟩
                  · have d' : (f (s + 1) == 46) = false := by simp [d1]
                    have HO2 : Hid _ := HO.out.trans (if_neg (fun h => d1 h.2))
                    clear d d1 HO
                    go_wp2
                    all_goals go_ret
                    all_goals exact ⟨ret_int HO2.out.symm, rfl⟩
                · have d' : (f s == 46) = false := by simp [d]
                  have HO2 : Hid _ := HO.out.trans (if_neg (fun h => d h.1))
                  clear d HO
                  go_wp2
                  all_goals go_ret
                  all_goals exact ⟨ret_int HO2.out.symm, rfl⟩
              have HO : Hid _ := HA.out.more (by omega)
              have g0 : s + 2 < i := by omega
              clear HA n0 n1 n2 HC
              by_cases z : s = 0
              · subst z
                go_wp2
                all_goals go_ret
                all_goals exact ⟨ret_int HO.out.symm, rfl⟩
              have z' : ((s : Int) == 0) = false := by simp [z]
              go_wp2
              all_goals go_ret
              all_goals exact ⟨ret_int HO.out.symm, rfl⟩

theorem meaning_any (a : Option Addr) (len cap : Nat) (f : Nat → Int) (w : World) (hlen : len ≤ 1048576) (hcap : len ≤ cap) (hC : Cells w a len f) :
    Calls Try.prog 14 #[.slice a len cap] w fun e w' => e = .returned (.int .u8 (run f len)) ∧ w = w' := by
  by_cases hp : 0 < len
  · obtain ⟨b, off, rfl, hc⟩ := hC hp
    exact meaning_some b off len cap f w hp hlen hcap hc
  · obtain rfl : len = 0 := by omega
    go_enter Try.func14, Try.ntmps14
    go_wp2
    go_ret
    exact ⟨rfl, rfl⟩
end Go.Proofs.Qxb6601275a
