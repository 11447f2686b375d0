/-
  'FnJoinRulesSplitsAtAnyCut': the walk of 'joinRules'.
-/
import Derived.Test.Qxb6601275aJoinAt
import Derived.BigQuiet
namespace Go.Proofs.Qxb6601275a.JoinLaw
open Go.RowKit
open Join

theorem nb_bd (N R F : Nat → ByteArray) {k n : Nat} (h : k ≤ n) (hw : wt N R F n ≤ 1048576) : (nb (strs N) k).length ≤ 1048576 := by
  have h1 := nb_le (strs N) k; have h2 := wt_mono N R F h; unfold wt at h2 hw; omega
theorem rb_bd (N R F : Nat → ByteArray) {k n : Nat} (h : k ≤ n) (hw : wt N R F n ≤ 1048576) : (rb (strs R) k).length ≤ 1048576 := by
  have h1 := rb_le (strs R) k; have h2 := wt_mono N R F h; unfold wt at h2 hw; omega
theorem fb_bd (N R F : Nat → ByteArray) {k n : Nat} (h : k ≤ n) (hw : wt N R F n ≤ 1048576) : (fb (strs F) k).length ≤ 1048576 := by
  have h1 := fb_le (strs F) k; have h2 := wt_mono N R F h; unfold wt at h2 hw; omega
theorem sz_bd (N R F : Nat → ByteArray) {k n : Nat} (h : k < n) (hw : wt N R F n ≤ 1048576) : (N k).size ≤ 1048576 ∧ (R k).size ≤ 1048576 ∧ (F k).size ≤ 1048576 := by
  have h1 := wt_succ N R F k; have h2 := wt_mono N R F (show k + 1 ≤ n by omega); omega
theorem nb_zero (N : Nat → ByteArray) {k : Nat} (h : ¬ 0 < k) : nb (strs N) k ++ bts (N k) = nb (strs N) (k + 1) := by
  simp only [nb]; rw [if_neg h]; rfl
theorem nb_more (N : Nat → ByteArray) {k : Nat} (h : 0 < k) : (nb (strs N) k ++ [44]) ++ bts (N k) = nb (strs N) (k + 1) := by
  simp only [nb]; rw [if_pos h, List.append_assoc]; rfl

theorem rb_skip (X : Str) (R : Nat → ByteArray) {k : Nat} (h : bts (R k) = []) : X ++ rb (strs R) k = X ++ rb (strs R) (k + 1) := by
  simp only [rb]; rw [if_pos (show strs R k = [] from h)]
theorem rb_first (X : Str) (R : Nat → ByteArray) {k : Nat} (h : ¬ bts (R k) = []) (h1 : rb (strs R) k = []) : (X ++ rb (strs R) k) ++ bts (R k) = X ++ rb (strs R) (k + 1) := by
  simp only [rb]; rw [if_neg (show ¬ strs R k = [] from h), if_pos h1, h1]; simp [strs]
theorem rb_more (X : Str) (R : Nat → ByteArray) {k : Nat} (h : ¬ bts (R k) = []) (h1 : ¬ rb (strs R) k = []) : ((X ++ rb (strs R) k) ++ bts ⟨#[255]⟩) ++ bts (R k) = X ++ rb (strs R) (k + 1) := by
  simp only [rb]; rw [if_neg (show ¬ strs R k = [] from h), if_neg h1]; simp [strs, bts]
theorem nil_true (s : ByteArray) (h : bts s = []) : s.toList.isEmpty = true := by rw [ByteArray.toList_eq]; unfold bts at h; rw [h]; rfl
theorem nil_false (s : ByteArray) (h : ¬ bts s = []) : s.toList.isEmpty = false := by
  rw [ByteArray.toList_eq]; unfold bts at h; cases hs : s.data.toList with
  | nil => exact absurd hs h
  | cons a b => rfl
theorem fb_zero (X : Str) (F : Nat → ByteArray) {k : Nat} (h : ¬ 0 < k) : (X ++ fb (strs F) k) ++ bts (F k) = X ++ fb (strs F) (k + 1) := by
  simp only [fb]; rw [if_neg h]; simp [strs]
theorem fb_more (X : Str) (F : Nat → ByteArray) {k : Nat} (h : 0 < k) : ((X ++ fb (strs F) k) ++ bts ⟨#[0]⟩) ++ bts (F k) = X ++ fb (strs F) (k + 1) := by
  simp only [fb]; rw [if_pos h]; simp [strs, bts]

theorem cut_one (X Y Z : Str) {s : ByteArray} (h : s = ⟨(X ++ (Y ++ Z)).toArray⟩) : bts (s.extract 0 X.length) = X := by
  subst h; unfold bts; rw [Lib.extract_data]; simp
theorem cut_two (X Y Z : Str) {s : ByteArray} (h : s = ⟨(X ++ (Y ++ Z)).toArray⟩) : bts (s.extract X.length (X.length + Y.length)) = Y := by
  subst h; unfold bts; rw [Lib.extract_data]; simp

set_option maxRecDepth 100000 in
theorem join_one (pb : Nat) (P : Nat → Nat) (N R F : Nat → ByteArray) (w : World) (hP : PtrsAt w pb 1 P N R F) :
    Calls Try.prog 26 #[.slice (some ⟨pb, 0, none⟩) 1 1] w fun e w' => ∃ s1 s2 s3 : ByteArray, e = .returned (.tuple #[.string s1, .string s2, .string s3]) ∧ bts s1 = nb (strs N) 1 ∧ bts s2 = rb (strs R) 1 ∧ Below w.heap.size w w' := by
  obtain ⟨hc, _, c0, c2, _⟩ := hP.2 0 (by omega)
  go_enter Try.func26, Try.ntmps26
  go_wp2
  go_region
  go_wp2
  go_ret3
  refine ⟨_, _, _, rfl, ?_, ?_, (Below.refl _ _).drew⟩
  · simp [nb, strs]
  · simp only [rb, strs]; split
    · assumption
    · rfl

set_option maxRecDepth 100000 in
set_option maxHeartbeats 1600000 in
theorem join_many (pb n : Nat) (P : Nat → Nat) (N R F : Nat → ByteArray) (w : World) (hn1 : n ≠ 1) (hw : wt N R F n ≤ 1048576) (hP : PtrsAt w pb n P N R F) :
    Calls Try.prog 26 #[.slice (some ⟨pb, 0, none⟩) n n] w fun e w' => ∃ s1 s2 s3 : ByteArray, e = .returned (.tuple #[.string s1, .string s2, .string s3]) ∧ bts s1 = nb (strs N) n ∧ bts s2 = rb (strs R) n ∧ Below w.heap.size w w' := by
  have hg1 : ((n : Int) == 1) = false := by simp; omega
  have hn : n ≤ 65536 := by unfold wt at hw; omega
  have HP : Hid _ := hP
  clear hP hn1
  go_enter Try.func26, Try.ntmps26
  go_wp2
  go_loopw [5, 38] (fun t i wr => ∃ (v : Bool) (k : Nat), k ≤ n ∧ t = .bool v ∧ i = .int .i64 k ∧ Below w.heap.size w wr) (fun _ i _ => n - (intOf i).toNat)
  case atStart => exact ⟨true, 0, by omega, rfl, rfl, Below.refl _ _⟩
  case round =>
    obtain ⟨v, k, hk, rfl, rfl, hB⟩ := hrel
    by_cases hlt : k < n
    · have hP := PtrsAt.keep HP.out hB
      obtain ⟨c, _, _, _, cf⟩ := hP.2 k hlt
      obtain ⟨c', _, _, _, cf'⟩ := hP.2 0 (by omega)
      have hi1 : (0 : Int) < (n : Int) := by omega
      clear hP
      cases v
      · go_wp2
        go_quiet (fail)
        go_wp2
        go_roundw
        case rel => exact ⟨_, k + 1, by omega, rfl, by go_num, below_drewN hB _⟩
        case measure => simp [intOf]; omega
      · go_wp2
        go_quiet (fail)
        go_wp2
        go_roundw
        case rel => exact ⟨_, k + 1, by omega, rfl, by go_num, below_drewN hB _⟩
        case measure => simp [intOf]; omega
    · go_wp2
      obtain ⟨wA, rfl⟩ : ∃ wA : World, wA = wr := ⟨_, rfl⟩
      go_loopw [8, 59] (fun t i wr => ∃ S k : Nat, k ≤ n ∧ S ≤ 4194304 ∧ Hid (S ≤ wt N R F k) ∧ t = .int .i64 S ∧ i = .int .i64 k ∧ Below w.heap.size w wr) (fun _ i _ => n - (intOf i).toNat)
      case atStart => exact ⟨0, 0, by omega, by omega, Nat.zero_le _, rfl, rfl, hB⟩
      case round =>
        clear hB
        obtain ⟨S, k2, hk2, hS0, HS, rfl, rfl, hB⟩ := hrel
        by_cases hlt2 : k2 < n
        · obtain ⟨c, _, cn, cr, cf⟩ := (PtrsAt.keep HP.out hB).2 k2 hlt2
          have w1 := wt_succ N R F k2
          have w2 := wt_mono N R F (show k2 + 1 ≤ n by omega)
          have hS := HS.out
          have hb1 : (N k2).size ≤ 1048576 := by omega
          have hb2 : (R k2).size ≤ 1048576 := by omega
          have hb3 : (F k2).size ≤ 1048576 := by omega
          have HW : Hid (S + ((N k2).size + 1 + (R k2).size + 1) + ((F k2).size + 1) ≤ wt N R F (k2 + 1)) := (show _ ≤ _ by omega)
          have hS2 : S + ((N k2).size + 1 + (R k2).size + 1) + ((F k2).size + 1) ≤ 1048576 := by omega
          clear w1 w2 hS HS
          cases v
          · go_wp2
            go_region
            go_wp2
            go_roundw
            case rel => exact ⟨S + ((N k2).size + 1 + (R k2).size + 1) + ((F k2).size + 1), k2 + 1, by omega, by omega, HW.out, by go_num, by go_num, hB.drew⟩
            case measure => simp [intOf]; omega
          · go_wp2
            go_region
            go_wp2
            go_roundw
            case rel => exact ⟨S + ((N k2).size + 1 + (R k2).size + 1), k2 + 1, by omega, by omega, (show _ ≤ _ by have := HW.out; omega), by go_num, by go_num, hB.drew⟩
            case measure => simp [intOf]; omega
        · go_wp2_with fail
          refine (wgrow S (by omega)).mono ?_
          rintro e w3 ⟨rfl, hb3, hw3⟩
          have hJ : JoinAt w pb n P N R F wr.heap.size [] w3 := ⟨hB.size, hB.trans (hw3.mono hB.size), hb3⟩
          have HJ : Hid _ := hJ
          obtain ⟨B0, hB0⟩ : ∃ B0, B0 = wr.heap.size := ⟨_, rfl⟩
          rw [← hB0] at HJ ⊢
          clear hJ hb3 hw3 hB0
          go_wp2
          go_loopw [93] (fun i wr => ∃ k : Nat, k ≤ n ∧ i = .int .i64 k ∧ Hid (JoinAt w pb n P N R F B0 (nb (strs N) k) wr)) (fun i _ => n - (intOf i).toNat)
          case atStart => exact ⟨0, by omega, rfl, HJ⟩
          case round =>
            clear HJ hB
            obtain ⟨k3, hk3, rfl, HJ⟩ := hrel
            by_cases hlt3 : k3 < n
            · obtain ⟨c, _, cn, _, _⟩ := (PtrsAt.keep HP.out (JoinAt.below HJ.out)).2 k3 hlt3
              have hl := nb_bd N R F (k := k3) (n := n) (by omega) hw
              have hs := (sz_bd N R F hlt3 hw).1
              by_cases h0 : 0 < k3
              · go_wp2_with (go_at_call 35; refine (wb (JoinAt.bld HJ.out) (by omega) (Nat.le_of_lt (Bld.lt (JoinAt.bld HJ.out)))).mono ?_; rintro e w4 ⟨rfl, hb4, hw4⟩; have HJ4 : Hid _ := JoinAt.next HJ.out hb4 hw4; obtain ⟨c, _, cn, _, _⟩ := (PtrsAt.keep HP.out (JoinAt.below HJ4.out)).2 k3 hlt3; clear hb4 hw4)
                refine (ws (N k3) (JoinAt.bld HJ4.out) (by simp; omega) (by omega) (Nat.le_of_lt (Bld.lt (JoinAt.bld HJ4.out)))).mono ?_
                rintro e w5 ⟨rfl, hb5, hw5⟩
                have HJ5 : Hid _ := JoinAt.next HJ4.out hb5 hw5
                clear hb5 hw5
                rw [nb_more N h0] at HJ5
                go_wp2
                go_roundw
                case rel => exact ⟨k3 + 1, by omega, by go_num, HJ5⟩
                case measure => simp [intOf]; omega
              · go_wp2_with fail
                refine (ws (N k3) (JoinAt.bld HJ.out) (by omega) (by omega) (Nat.le_of_lt (Bld.lt (JoinAt.bld HJ.out)))).mono ?_
                rintro e w5 ⟨rfl, hb5, hw5⟩
                have HJ5 : Hid _ := JoinAt.next HJ.out hb5 hw5
                clear hb5 hw5
                rw [nb_zero N h0] at HJ5
                go_wp2
                go_roundw
                case rel => exact ⟨k3 + 1, by omega, by go_num, HJ5⟩
                case measure => simp [intOf]; omega
            · obtain rfl : k3 = n := by omega
              have hnl := nb_bd N R F (Nat.le_refl k3) hw
              go_wp2_with fail
              refine (wlen (JoinAt.bld HJ.out)).mono ?_
              rintro e w4 ⟨rfl, rfl⟩
              go_wp2
              go_loopw [110] (fun i wr => ∃ k : Nat, k ≤ k3 ∧ i = .int .i64 k ∧ Hid (JoinAt w pb k3 P N R F B0 (nb (strs N) k3 ++ rb (strs R) k) wr)) (fun i _ => k3 - (intOf i).toNat)
              case atStart => exact ⟨0, by omega, rfl, (show JoinAt w pb k3 P N R F B0 (nb (strs N) k3 ++ rb (strs R) 0) _ by rw [show rb (strs R) 0 = [] from rfl, List.append_nil]; exact HJ)⟩
              case round =>
                clear HJ
                obtain ⟨k4, hk4, rfl, HJ⟩ := hrel
                by_cases hlt4 : k4 < k3
                · obtain ⟨c, _, _, cr, _⟩ := (PtrsAt.keep HP.out (JoinAt.below HJ.out)).2 k4 hlt4
                  have hl := rb_bd N R F (k := k4) (n := k3) (by omega) hw
                  have hs := (sz_bd N R F hlt4 hw).2.1
                  have hlen : (nb (strs N) k3 ++ rb (strs R) k4).length = (nb (strs N) k3).length + (rb (strs R) k4).length := by simp
                  by_cases hr : bts (R k4) = []
                  · have hE := nil_true _ hr
                    rw [rb_skip _ R hr] at HJ
                    clear hlen
                    go_wp2
                    go_roundw
                    case rel => exact ⟨k4 + 1, by omega, by go_num, HJ⟩
                    case measure => simp [intOf]; omega
                  have hE := nil_false _ hr
                  go_wp2_with fail
                  refine (wlen (JoinAt.bld HJ.out)).mono ?_
                  rintro e w4 ⟨rfl, rfl⟩
                  rw [hlen]
                  by_cases hrb : rb (strs R) k4 = []
                  · have h0 : (rb (strs R) k4).length = 0 := by rw [hrb]; rfl
                    rw [h0, Nat.add_zero]
                    have hX := rb_first (nb (strs N) k3) R hr hrb
                    have HX : Hid _ := hX
                    clear hX hrb hlen
                    go_wp2_with fail
                    refine (ws (R k4) (JoinAt.bld HJ.out) (by simp; omega) (by omega) (Nat.le_of_lt (Bld.lt (JoinAt.bld HJ.out)))).mono ?_
                    rintro e w5 ⟨rfl, hb5, hw5⟩
                    have HJ5 : Hid _ := JoinAt.next HJ.out hb5 hw5
                    clear hb5 hw5
                    rw [HX.out] at HJ5
                    go_wp2
                    go_roundw
                    case rel => exact ⟨k4 + 1, by omega, by go_num, HJ5⟩
                    case measure => simp [intOf]; omega
                  · have h0 : 0 < (rb (strs R) k4).length := List.length_pos_iff.2 hrb
                    have hX := rb_more (nb (strs N) k3) R hr hrb
                    have HX : Hid _ := hX
                    have hl6 : ((nb (strs N) k3 ++ rb (strs R) k4) ++ bts ⟨#[255]⟩).length ≤ 4194304 := by rw [List.length_append, hlen, bts_len]; show _ + 1 ≤ _; omega
                    have HL6 : Hid _ := hl6
                    clear hX hrb hlen hl6
                    go_wp2_with fail
                    refine (ws ⟨#[255]⟩ (JoinAt.bld HJ.out) (by simp; omega) (by decide) (Nat.le_of_lt (Bld.lt (JoinAt.bld HJ.out)))).mono ?_
                    rintro e w5 ⟨rfl, hb5, hw5⟩
                    have HJ5 : Hid _ := JoinAt.next HJ.out hb5 hw5
                    obtain ⟨c, _, _, cr, _⟩ := (PtrsAt.keep HP.out (JoinAt.below HJ5.out)).2 k4 hlt4
                    clear hb5 hw5
                    go_wp2_with fail
                    refine (ws (R k4) (JoinAt.bld HJ5.out) HL6.out (by omega) (Nat.le_of_lt (Bld.lt (JoinAt.bld HJ5.out)))).mono ?_
                    rintro e w6 ⟨rfl, hb6, hw6⟩
                    have HJ6 : Hid _ := JoinAt.next HJ5.out hb6 hw6
                    clear hb6 hw6
                    rw [HX.out] at HJ6
                    go_wp2
                    go_roundw
                    case rel => exact ⟨k4 + 1, by omega, by go_num, HJ6⟩
                    case measure => simp [intOf]; omega
                · obtain rfl : k4 = k3 := by omega
                  have hrl := rb_bd N R F (Nat.le_refl k4) hw
                  go_wp2_with fail
                  refine (wlen (JoinAt.bld HJ.out)).mono ?_
                  rintro e w4 ⟨rfl, rfl⟩
                  rw [show (nb (strs N) k4 ++ rb (strs R) k4).length = (nb (strs N) k4).length + (rb (strs R) k4).length by simp]
                  cases v
                  · go_wp2
                    go_loopw [134] (fun i wr => ∃ k : Nat, k ≤ k4 ∧ i = .int .i64 k ∧ Hid (JoinAt w pb k4 P N R F B0 ((nb (strs N) k4 ++ rb (strs R) k4) ++ fb (strs F) k) wr)) (fun i _ => k4 - (intOf i).toNat)
                    case atStart => exact ⟨0, by omega, rfl, (show JoinAt w pb k4 P N R F B0 ((nb (strs N) k4 ++ rb (strs R) k4) ++ fb (strs F) 0) _ by rw [show fb (strs F) 0 = [] from rfl, List.append_nil]; exact HJ)⟩
                    case round =>
                      clear HJ
                      obtain ⟨k5, hk5, rfl, HJ⟩ := hrel
                      by_cases hlt5 : k5 < k4
                      · obtain ⟨c, _, _, _, cf⟩ := (PtrsAt.keep HP.out (JoinAt.below HJ.out)).2 k5 hlt5
                        have hl := fb_bd N R F (k := k5) (n := k4) (by omega) hw
                        have hs := (sz_bd N R F hlt5 hw).2.2
                        by_cases h0 : 0 < k5
                        · have hl6 : (((nb (strs N) k4 ++ rb (strs R) k4) ++ fb (strs F) k5) ++ bts ⟨#[0]⟩).length ≤ 4194304 := by rw [List.length_append, bts_len]; simp only [List.length_append]; show _ + 1 ≤ _; omega
                          have HL6 : Hid _ := hl6
                          clear hl6
                          go_wp2_with fail
                          refine (ws ⟨#[0]⟩ (JoinAt.bld HJ.out) (by simp only [List.length_append]; omega) (by decide) (Nat.le_of_lt (Bld.lt (JoinAt.bld HJ.out)))).mono ?_
                          rintro e w5 ⟨rfl, hb5, hw5⟩
                          have HJ5 : Hid _ := JoinAt.next HJ.out hb5 hw5
                          obtain ⟨c, _, _, _, cf⟩ := (PtrsAt.keep HP.out (JoinAt.below HJ5.out)).2 k5 hlt5
                          clear hb5 hw5
                          go_wp2_with fail
                          refine (ws (F k5) (JoinAt.bld HJ5.out) HL6.out (by omega) (Nat.le_of_lt (Bld.lt (JoinAt.bld HJ5.out)))).mono ?_
                          rintro e w6 ⟨rfl, hb6, hw6⟩
                          have HJ6 : Hid _ := JoinAt.next HJ5.out hb6 hw6
                          clear hb6 hw6
                          rw [fb_more _ F h0] at HJ6
                          go_wp2
                          go_roundw
                          case rel => exact ⟨k5 + 1, by omega, by go_num, HJ6⟩
                          case measure => simp [intOf]; omega
                        · go_wp2_with fail
                          refine (ws (F k5) (JoinAt.bld HJ.out) (by simp only [List.length_append]; omega) (by omega) (Nat.le_of_lt (Bld.lt (JoinAt.bld HJ.out)))).mono ?_
                          rintro e w5 ⟨rfl, hb5, hw5⟩
                          have HJ5 : Hid _ := JoinAt.next HJ.out hb5 hw5
                          clear hb5 hw5
                          rw [fb_zero _ F h0] at HJ5
                          go_wp2
                          go_roundw
                          case rel => exact ⟨k5 + 1, by omega, by go_num, HJ5⟩
                          case measure => simp [intOf]; omega
                      · obtain rfl : k5 = k4 := by omega
                        go_wp2_with fail
                        refine (wstr (JoinAt.bld HJ.out) (Nat.le_of_lt (Bld.lt (JoinAt.bld HJ.out)))).mono ?_
                        rintro e w7 ⟨rfl, hw7⟩
                        have hBf : Below w.heap.size w w7 := (JoinAt.below HJ.out).trans (hw7.mono (JoinAt.hb HJ.out))
                        obtain ⟨s, hs⟩ : ∃ s : ByteArray, s = ⟨((nb (strs N) k5 ++ rb (strs R) k5) ++ fb (strs F) k5).toArray⟩ := ⟨_, rfl⟩
                        rw [← hs]
                        have hsz : s.size = (nb (strs N) k5).length + ((rb (strs R) k5).length + (fb (strs F) k5).length) := by rw [hs]; show Array.size _ = _; simp
                        have hs1 : (nb (strs N) k5).length ≤ s.size := by omega
                        have hs2 : (nb (strs N) k5).length + (rb (strs R) k5).length ≤ s.size := by omega
                        have hz := fb_bd N R F (Nat.le_refl k5) hw
                        have hs3 : s.size ≤ 4194304 := by omega
                        have hs' : s = ⟨(nb (strs N) k5 ++ (rb (strs R) k5 ++ fb (strs F) k5)).toArray⟩ := by rw [hs]; rw [List.append_assoc]
                        have H1 : Hid _ := cut_one _ _ _ hs'
                        have H2 : Hid _ := cut_two _ _ _ hs'
                        clear hs hs' hsz hw7 HJ
                        obtain ⟨A, hA⟩ : ∃ A, A = (nb (strs N) k5).length := ⟨_, rfl⟩
                        obtain ⟨Bq, hBq⟩ : ∃ Bq, Bq = (rb (strs R) k5).length := ⟨_, rfl⟩
                        rw [← hA, ← hBq] at H2 hs2
                        rw [← hA] at H1 hs1 hnl
                        rw [← hBq] at hrl
                        rw [← hA, ← hBq]
                        clear hA hBq
                        go_wp2
                        go_region
                        go_wp2
                        go_ret3
                        exact ⟨_, _, _, rfl, H1.out, H2.out, hBf.drew⟩
                  · go_wp2_with fail
                    refine (wstr (JoinAt.bld HJ.out) (Nat.le_of_lt (Bld.lt (JoinAt.bld HJ.out)))).mono ?_
                    rintro e w7 ⟨rfl, hw7⟩
                    have hBf : Below w.heap.size w w7 := (JoinAt.below HJ.out).trans (hw7.mono (JoinAt.hb HJ.out))
                    obtain ⟨s, hs⟩ : ∃ s : ByteArray, s = ⟨(nb (strs N) k4 ++ rb (strs R) k4).toArray⟩ := ⟨_, rfl⟩
                    rw [← hs]
                    have hsz : s.size = (nb (strs N) k4).length + ((rb (strs R) k4).length + (([] : Str)).length) := by rw [hs]; show Array.size _ = _; simp
                    have hs1 : (nb (strs N) k4).length ≤ s.size := by omega
                    have hs2 : (nb (strs N) k4).length + (rb (strs R) k4).length ≤ s.size := by omega
                    have hz : ([] : Str).length ≤ 1048576 := by decide
                    have hs3 : s.size ≤ 4194304 := by omega
                    have hs' : s = ⟨(nb (strs N) k4 ++ (rb (strs R) k4 ++ [])).toArray⟩ := by rw [hs]; simp
                    have H1 : Hid _ := cut_one _ _ _ hs'
                    have H2 : Hid _ := cut_two _ _ _ hs'
                    clear hs hs' hsz hw7 HJ
                    obtain ⟨A, hA⟩ : ∃ A, A = (nb (strs N) k4).length := ⟨_, rfl⟩
                    obtain ⟨Bq, hBq⟩ : ∃ Bq, Bq = (rb (strs R) k4).length := ⟨_, rfl⟩
                    rw [← hA, ← hBq] at H2 hs2
                    rw [← hA] at H1 hs1 hnl
                    rw [← hBq] at hrl
                    rw [← hA, ← hBq]
                    clear hA hBq
                    go_wp2
                    go_region
                    go_wp2
                    go_ret3
                    exact ⟨_, _, _, rfl, H1.out, H2.out, hBf.drew⟩

theorem join_any (pb n : Nat) (P : Nat → Nat) (N R F : Nat → ByteArray) (w : World) (hw : wt N R F n ≤ 1048576) (hP : PtrsAt w pb n P N R F) :
    Calls Try.prog 26 #[.slice (some ⟨pb, 0, none⟩) n n] w fun e w' => ∃ s1 s2 s3 : ByteArray, e = .returned (.tuple #[.string s1, .string s2, .string s3]) ∧ bts s1 = nb (strs N) n ∧ bts s2 = rb (strs R) n ∧ Below w.heap.size w w' := by
  by_cases h : n = 1
  · subst h; exact join_one pb P N R F w hP
  · exact join_many pb n P N R F w h hw hP

set_option maxRecDepth 100000 in
theorem zzjoin_any (pb n : Nat) (P : Nat → Nat) (N R F : Nat → ByteArray) (w : World) (hw : wt N R F n ≤ 1048576) (hP : PtrsAt w pb n P N R F) :
    Calls Try.prog 20 #[.slice (some ⟨pb, 0, none⟩) n n] w fun e w' => ∃ s1 s2 s3 : ByteArray, e = .returned (.tuple #[.string s1, .string s2, .string s3]) ∧ bts s1 = nb (strs N) n ∧ bts s2 = rb (strs R) n ∧ Below w.heap.size w w' := by
  go_enter Try.func20, Try.ntmps20
  go_wp2_with fail
  refine (join_any pb n P N R F w hw hP).mono ?_
  rintro e w' ⟨s1, s2, s3, rfl, h1, h2, h3⟩
  have H1 : Hid _ := h1
  have H2 : Hid _ := h2
  clear h1 h2
  go_wp2
  go_ret3
  exact ⟨s1, s2, s3, rfl, H1.out, H2.out, h3⟩
end Go.Proofs.Qxb6601275a.JoinLaw
