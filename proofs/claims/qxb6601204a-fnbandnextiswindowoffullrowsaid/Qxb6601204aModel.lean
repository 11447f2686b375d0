/-
  THE WALK OF 'zzBandModel': it answers the window of the full row.
-/
import Derived.Test.Qxb6601204aWindow
import Derived.Test.Qxb6601204aRunAt
namespace Go.Proofs.Qxb6601204a
open Go.RowKit
open Band

theorem fr_pos {b : Nat → Int} {r k : Int} {q : Nat → Int} {j : Nat} (h : 0 < j) :
    fr b r k q j = min (min (min 3 (pv b k (j : Int) + 1)) (fr b r k q (j - 1) + 1)) (pv b k ((j : Int) - 1) + if q (j - 1) = r then 0 else 1) := by
  obtain ⟨i, rfl⟩ : ∃ i, j = i + 1 := ⟨j - 1, by omega⟩
  rw [show ((i + 1 : Nat) : Int) - 1 = (i : Int) by omega]
  rfl

set_option maxRecDepth 100000 in
set_option maxHeartbeats 1600000 in
theorem model_in {w : World} {B M len cq : Nat} {aq : Option Addr} {q : Nat → Int} (hQ : IsQ w B M aq len cq q) (hM : M ≤ w.heap.size) (hlen : len ≤ 1048576) (b : Nat → Int) (r k : Int) (hb : ∀ s, s < 5 → -128 ≤ b s ∧ b s ≤ 3) (hk : -2 ≤ k) (hk2 : k ≤ len + 2) :
    Calls Try.prog 14 #[.agg #[.int .i8 (b 0), .int .i8 (b 1), .int .i8 (b 2), .int .i8 (b 3), .int .i8 (b 4)], .int .i32 r, .int .i64 k, .slice aq len cq] w fun e w' =>
      e = .returned (.agg #[.int .i8 (win b r k q len 0), .int .i8 (win b r k q len 1), .int .i8 (win b r k q len 2), .int .i8 (win b r k q len 3), .int .i8 (win b r k q len 4)]) ∧ Below w.heap.size w w' := by
  have hg1 : ¬ k < -2 := by omega
  have hg2 : ¬ (len : Int) + 2 < k := by omega
  have HQ : Hid _ := hQ
  clear hQ
  go_enter Try.func14, Try.ntmps14
  go_wp2
  go_loopw [10] (fun i wr => ∃ t : Nat, t ≤ 5 ∧ i = .int .i64 t ∧ NextAt w wr b (done (fun _ => 3) t)) (fun i _ => 5 - (intOf i).toNat)
  case atStart => exact ⟨0, by omega, rfl, NextAt.start27 w b _⟩
  case round =>
    obtain ⟨t, ht5, rfl, hN⟩ := hrel
    by_cases ht : t < 5
    · have hrow := hN.row t ht
      have hrowf := hN.rowf t ht
      go_wp2
      go_roundw
      case rel => exact ⟨t + 1, by omega, by go_num, (hN.set t ht 3).close rfl⟩
      case measure => simp [intOf]; omega
    · obtain rfl : t = 5 := by omega
      have hN0 : NextAt w wr b (outAt (fr b r k q) k 0) := hN.congr (fun s hs => by rw [outAt_zero, done, if_pos hs])
      clear hN
      go_wp2
      obtain ⟨wo, rfl⟩ : ∃ wo : World, wo = wr := ⟨_, rfl⟩
      go_loopw [11, 12] (fun l i wr => ∃ j : Nat, j ≤ len + 1 ∧ i = .int .i64 j ∧ (∃ L : Int, l = .int .i64 L ∧ -128 ≤ L ∧ L ≤ 3 ∧ Hid (0 < j → L = fr b r k q (j - 1))) ∧ NextAt w wr b (outAt (fr b r k q) k j)) (fun _ i _ => len + 1 - (intOf i).toNat)
      case atStart => exact ⟨0, by omega, rfl, ⟨0, rfl, by omega, by omega, fun h => absurd h (by omega)⟩, hN0⟩
      case round =>
        clear hN0
        obtain ⟨j, hj, rfl, ⟨L, rfl, hL1, hL2, HL⟩, hN⟩ := hrel
        by_cases hlt : j < len + 1
        · have x0 := hN.box 0 (by omega); have x1 := hN.box 1 (by omega); have x2 := hN.box 2 (by omega); have x3 := hN.box 3 (by omega); have x4 := hN.box 4 (by omega)
          have hpb := pv_bd (k := k) hb (j : Int)
          go_upto_if 46 with (go_at_call 19; refine (prev_any b k (j : Int) _ hb hk (by omega) (by omega) (by omega)).mono ?_; rintro e w2 ⟨rfl, hb2⟩)
          have hN2 := hN.next hb2
          clear hN hb2 x0 x1 x2 x3 x4
          go_cut [13] (fun d wx => ∃ D : Int, d = .int .i64 D ∧ -128 ≤ D ∧ D ≤ 3 ∧ Hid (D = min 3 (pv b k (j : Int) + 1)) ∧ NextAt w wx b (outAt (fr b r k q) k j))
          case first =>
            by_cases hd : pv b k (j : Int) + 1 < 3
            · go_wp2
              go_meet
              case rel => exact ⟨_, rfl, by omega, by omega, (show _ = _ by omega), hN2⟩
            · go_wp2
              go_meet
              case rel => exact ⟨_, rfl, by omega, by omega, (show _ = _ by omega), hN2⟩
          case rest =>
            obtain ⟨wB, rfl⟩ : ∃ wB : World, wB = wc := ⟨_, rfl⟩
            obtain ⟨D, rfl, hD1, hD2, HD, hN3⟩ := hcut
            clear hN2
            go_upto_if 49 with fail
            go_cut [13, 15] (fun d c wx => ∃ E : Int, d = .int .i64 E ∧ Hid (E = fr b r k q j) ∧ NextAt w wx b (outAt (fr b r k q) k j))
            case first =>
              by_cases hj0 : 0 < j
              · rcases HQ.out with ⟨_, h0, _⟩ | ⟨qb, rfl, hq1, hq2, hq3⟩
                · omega
                have x0 := hN3.box 0 (by omega); have x1 := hN3.box 1 (by omega); have x2 := hN3.box 2 (by omega); have x3 := hN3.box 3 (by omega); have x4 := hN3.box 4 (by omega)
                have hpb' := pv_bd (k := k) hb ((j : Int) - 1)
                have hqc := hq3.cell (i := j - 1) (by omega)
                clear hq3 HQ
                have hx1 : qb < w.heap.size := by omega
                have hx2 : qb < wB.heap.size := Nat.lt_of_lt_of_le hx1 hN3.below.size
                by_cases hqr : q (j - 1) = r
                · have hq' : (q (j - 1) != r) = false := by simp [hqr]
                  have HR : Hid _ := hqr
                  clear hqr
                  go_wp2_with (go_at_call 19; refine (prev_any b k ((j : Int) - 1) _ hb hk (by omega) (by omega) (by omega)).mono ?_; rintro e w2 ⟨rfl, hb2⟩; have hqc2 := ((hb2.cell (p := ⟨qb, j - 1, none⟩) hx2).trans ((hN3.below.cell (p := ⟨qb, j - 1, none⟩) hx1).trans hqc)))
                  all_goals go_meet
                  all_goals exact ⟨_, rfl, (show _ = _ by have e1 := HD.out; have e2 := HL.out (by omega); rw [fr_pos hj0, if_pos HR.out]; omega), hN3.next (by assumption)⟩
                · have hq' : (q (j - 1) != r) = true := by simp [hqr]
                  have HR : Hid _ := hqr
                  clear hqr
                  go_wp2_with (go_at_call 19; refine (prev_any b k ((j : Int) - 1) _ hb hk (by omega) (by omega) (by omega)).mono ?_; rintro e w2 ⟨rfl, hb2⟩; have hqc2 := ((hb2.cell (p := ⟨qb, j - 1, none⟩) hx2).trans ((hN3.below.cell (p := ⟨qb, j - 1, none⟩) hx1).trans hqc)))
                  all_goals go_meet
                  all_goals exact ⟨_, rfl, (show _ = _ by have e1 := HD.out; have e2 := HL.out (by omega); rw [fr_pos hj0, if_neg HR.out]; omega), hN3.next (by assumption)⟩
              · go_wp2
                go_meet
                case rel =>
                  obtain rfl : j = 0 := by omega
                  exact ⟨_, rfl, HD.out, hN3⟩
            case rest =>
              obtain ⟨wC, rfl⟩ : ∃ wC : World, wC = wc := ⟨_, rfl⟩
              obtain ⟨E, rfl, HE, hN4⟩ := hcut
              clear hN3 HD hD1 hD2 hpb
              have hE : -128 ≤ E ∧ E ≤ 3 := by rw [HE.out]; exact fr_bd hb j
              have hFin : Hid (0 < j + 1 → E = fr b r k q (j + 1 - 1)) := fun _ => HE.out
              by_cases t1 : (j : Int) - k + 2 < 0
              · go_wp2
                go_roundw
                case rel => exact ⟨j + 1, by omega, by go_num, ⟨_, rfl, hE.1, hE.2, hFin⟩, hN4.congr (outAt_out (.inl t1))⟩
                case measure => simp [intOf]; omega
              by_cases t2 : 4 < (j : Int) - k + 2
              · go_wp2
                go_roundw
                case rel => exact ⟨j + 1, by omega, by go_num, ⟨_, rfl, hE.1, hE.2, hFin⟩, hN4.congr (outAt_out (.inr t2))⟩
                case measure => simp [intOf]; omega
              have hrow := hN4.row ((j : Int) - k + 2).toNat (by omega)
              have hrowf := hN4.rowf ((j : Int) - k + 2).toNat (by omega)
              go_wp2
              go_roundw
              case rel =>
                refine ⟨j + 1, by omega, by go_num, ⟨_, rfl, hE.1, hE.2, hFin⟩, (hN4.set ((j : Int) - k + 2).toNat (by omega) E).congr (fun s hs => ?_)⟩
                rw [HE.out]
                exact outAt_in (by omega) s
              case measure => simp [intOf]; omega
        · obtain rfl : j = len + 1 := by omega
          have hN5 : NextAt w wr b (win b r k q len) := hN.congr (fun s _ => outAt_last len s)
          clear hN
          have r0 := hN5.row 0 (by omega); have r1 := hN5.row 1 (by omega); have r2 := hN5.row 2 (by omega); have r3 := hN5.row 3 (by omega); have r4 := hN5.row 4 (by omega)
          have s0 := hN5.res 0 (by omega); have s1 := hN5.res 1 (by omega); have s2 := hN5.res 2 (by omega); have s3 := hN5.res 3 (by omega); have s4 := hN5.res 4 (by omega)
          have f0 := hN5.resf 0 (by omega); have f1 := hN5.resf 1 (by omega); have f2 := hN5.resf 2 (by omega); have f3 := hN5.resf 3 (by omega); have f4 := hN5.resf 4 (by omega)
          have hB := hN5.below
          clear hN5
          go_wp2
          refine bodyPost_ret (v := .agg #[.int .i8 (win b r k q len 0), .int .i8 (win b r k q len 1), .int .i8 (win b r k q len 2), .int .i8 (win b r k q len 3), .int .i8 (win b r k q len 4)]) (by simp [results, Try.results14, go_sem, s0, s1, s2, s3, s4]) rfl ⟨rfl, ?_⟩
          exact ((((hB.setCell (by simp) _).setCell (by simp) _).setCell (by simp) _).setCell (by simp) _).setCell (by simp) _

set_option maxRecDepth 100000 in
set_option maxHeartbeats 1600000 in
theorem model_out {w : World} {len cq : Nat} {aq : Option Addr} (hlen : len ≤ 1048576) (b : Nat → Int) (r k : Int) (hk : k < -2 ∨ (len : Int) + 2 < k) :
    Calls Try.prog 14 #[.agg #[.int .i8 (b 0), .int .i8 (b 1), .int .i8 (b 2), .int .i8 (b 3), .int .i8 (b 4)], .int .i32 r, .int .i64 k, .slice aq len cq] w fun e w' =>
      e = .returned (.agg #[.int .i8 3, .int .i8 3, .int .i8 3, .int .i8 3, .int .i8 3]) ∧ Below w.heap.size w w' := by
  have HK : Hid _ := hk
  clear hk
  go_enter Try.func14, Try.ntmps14
  go_wp2
  go_loopw [10] (fun i wr => ∃ t : Nat, t ≤ 5 ∧ i = .int .i64 t ∧ NextAt w wr b (done (fun _ => 3) t)) (fun i _ => 5 - (intOf i).toNat)
  case atStart => exact ⟨0, by omega, rfl, NextAt.start27 w b _⟩
  case round =>
    obtain ⟨t, ht5, rfl, hN⟩ := hrel
    by_cases ht : t < 5
    · have hrow := hN.row t ht
      have hrowf := hN.rowf t ht
      go_wp2
      go_roundw
      case rel => exact ⟨t + 1, by omega, by go_num, (hN.set t ht 3).close rfl⟩
      case measure => simp [intOf]; omega
    · obtain rfl : t = 5 := by omega
      have r0 := hN.row 0 (by omega); have r1 := hN.row 1 (by omega); have r2 := hN.row 2 (by omega); have r3 := hN.row 3 (by omega); have r4 := hN.row 4 (by omega)
      have s0 := hN.res 0 (by omega); have s1 := hN.res 1 (by omega); have s2 := hN.res 2 (by omega); have s3 := hN.res 3 (by omega); have s4 := hN.res 4 (by omega)
      have f0 := hN.resf 0 (by omega); have f1 := hN.resf 1 (by omega); have f2 := hN.resf 2 (by omega); have f3 := hN.resf 3 (by omega); have f4 := hN.resf 4 (by omega)
      have hB := hN.below
      clear hN
      rw [done, if_pos (by omega)] at r0 r1 r2 r3 r4
      rcases HK.out with h | h
      · go_wp2
        refine bodyPost_ret (v := .agg #[.int .i8 3, .int .i8 3, .int .i8 3, .int .i8 3, .int .i8 3]) (by simp [results, Try.results14, go_sem, s0, s1, s2, s3, s4]) rfl ⟨rfl, ?_⟩
        exact ((((hB.setCell (by simp) _).setCell (by simp) _).setCell (by simp) _).setCell (by simp) _).setCell (by simp) _
      · have h' : ¬ k < -2 := by omega
        go_wp2
        refine bodyPost_ret (v := .agg #[.int .i8 3, .int .i8 3, .int .i8 3, .int .i8 3, .int .i8 3]) (by simp [results, Try.results14, go_sem, s0, s1, s2, s3, s4]) rfl ⟨rfl, ?_⟩
        exact ((((hB.setCell (by simp) _).setCell (by simp) _).setCell (by simp) _).setCell (by simp) _).setCell (by simp) _

/-- The two calls of the law answer the same five cells. -/
theorem both_same {B len cq : Nat} {aq : Option Addr} {q : Nat → Int} (hlen : len ≤ 1048576) (b : Nat → Int) (r k : Int)
    (hb : ∀ s, s < 5 → -128 ≤ b s ∧ b s ≤ 3) (h0 : 2 ≤ b 0) (w0 : -9223372036854775808 ≤ k) (w1 : k ≤ 9223372036854775807) :
    ∃ x0 x1 x2 x3 x4 : Int,
      (∀ (w : World) (M : Nat), IsQ w B M aq len cq q → M ≤ w.heap.size → Calls Try.prog 13 #[.agg #[.int .i8 (b 0), .int .i8 (b 1), .int .i8 (b 2), .int .i8 (b 3), .int .i8 (b 4)], .int .i32 r, .int .i64 k, .slice aq len cq] w fun e w' =>
        e = .returned (.agg #[.int .i8 x0, .int .i8 x1, .int .i8 x2, .int .i8 x3, .int .i8 x4]) ∧ Below w.heap.size w w') ∧
      ∀ (w : World) (M : Nat), IsQ w B M aq len cq q → M ≤ w.heap.size → Calls Try.prog 14 #[.agg #[.int .i8 (b 0), .int .i8 (b 1), .int .i8 (b 2), .int .i8 (b 3), .int .i8 (b 4)], .int .i32 r, .int .i64 k, .slice aq len cq] w fun e w' =>
        e = .returned (.agg #[.int .i8 x0, .int .i8 x1, .int .i8 x2, .int .i8 x3, .int .i8 x4]) ∧ Below w.heap.size w w' := by
  by_cases hk : k < -2 ∨ (len : Int) + 2 < k
  · exact ⟨3, 3, 3, 3, 3, fun w M _ _ => zznext_out b r k aq len cq w w0 w1 hk hlen, fun w M _ _ => model_out hlen b r k hk⟩
  · refine ⟨win b r k q len 0, win b r k q len 1, win b r k q len 2, win b r k q len 3, win b r k q len 4, fun w M hq hm => ?_, fun w M hq hm => model_in hq hm hlen b r k hb (by omega) (by omega)⟩
    have h := zznext_any hq hm hlen b r k hb (by omega) (by omega)
    rw [nx_win h0 len 0 (by omega), nx_win h0 len 1 (by omega), nx_win h0 len 2 (by omega), nx_win h0 len 3 (by omega), nx_win h0 len 4 (by omega)] at h
    exact h
end Go.Proofs.Qxb6601204a
