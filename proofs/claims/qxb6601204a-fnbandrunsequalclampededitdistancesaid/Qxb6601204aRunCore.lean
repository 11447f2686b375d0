/-
  THE WALK OF 'FnBandRunsEqualClampedEditDistance' behind its bounds.
-/
import Derived.Test.Qxb6601204aRunAt
import Derived.Deep.RegionWith
namespace Go.Proofs.Qxb6601204a
open Go.RowKit
open Band

set_option maxRecDepth 100000 in
set_option maxHeartbeats 1600000 in
theorem runs_core (a0 : Option Addr) (len0 cap0 : Nat) (z0 : List Int) (a1 : Option Addr) (len1 cap1 : Nat) (z1 : List Int) (w : World) (w0 : IsRow .i32 w a0 len0 cap0 z0) (w1 : IsRow .i32 w a1 len1 cap1 z1)
    (hl0 : len0 ≤ 1024) (hl1 : len1 ≤ 1024) :
    Calls Try.prog 7 #[.slice a0 len0 cap0, .slice a1 len1 cap1] w fun e w' => e = .returned (.bool true) ∧ Below w.heap.size w w' := by
  have hne := fun (w : World) => run_neq_slice_nil_any (P := Try.prog) w 28 21 a1 len1 cap1 0 0 Try.underlying28
  have hmk := fun (w : World) => run_make_row' (P := Try.prog) 28 21 (.int .i32 0) 4 Try.underlying28 info21 rfl .i64 .i64 len1 (by omega) (by omega) w
  go_enter Try.func7, Try.ntmps7
  go_upto_if 30 with (go_at_call 16; refine (bytes_ok _ _ _ _ _ _ _ hl0 hl1).mono ?_; rintro e w' ⟨rfl, rfl⟩)
  go_cut [1, 5] (fun q z wc => ∃ a c, q = .slice a len1 c ∧ IsQ wc w.heap.size wc.heap.size a len1 c (fun i => z1.getD i 0) ∧ Below w.heap.size w wc)
  case first =>
    rcases w1 with ⟨rfl, rfl, rfl, rfl⟩ | ⟨x, rfl, hlc, hcm, hzl, hcell, _⟩
    · go_wp2
      go_meet
      case rel => exact ⟨none, 0, rfl, .inl ⟨rfl, rfl, rfl⟩, Below.refl _ _⟩
    · have hc2 : ∀ j, j < len1 → (w.alloc (.cells (madeCells #[.int .i32 0] len1) 21)).cell? (x.add j) = some (.int .i32 (z1.getD j 0)) := fun j hj => Lib.cell?_alloc_some _ (hcell j (by omega))
      have hg : (w.alloc (.cells (madeCells #[.int .i32 0] len1) 21)).heap[w.heap.size]? = some (.cells (madeCells #[.int .i32 0] len1) 21 (0, 0)) := Deep.blk_alloc_new _ _
      have hb : Below w.heap.size w (w.alloc (.cells (madeCells #[.int .i32 0] len1) 21)) := (Below.refl _ _).alloc (Nat.le_refl _) _
      have HH : Hid _ := And.intro hc2 (And.intro hg hb)
      clear hc2 hg hb hcell
      go_upto_region 7 with fail
      go_wp2_with (refine wpList_copy_full rfl (.tmp 34) (.tmp 35) 28 28 rfl 21 Try.underlying28 size21 w.heap.size len1 cap1 x rfl rfl (.int .i32 0) 21 HH.out.2.1 (fun i => .int .i32 (z1.getD i 0)) HH.out.1 (fun _ => rfl) w.heap.size w HH.out.2.2 (Nat.le_refl _) ?_; intro w2 hrow hb2)
      go_meet
      case rel => exact ⟨some ⟨w.heap.size, 0, none⟩, len1, rfl, .inr ⟨w.heap.size, rfl, Nat.le_refl _, hrow.lt, hrow⟩, hb2⟩
  case rest =>
    obtain ⟨wA, rfl⟩ : ∃ wA : World, wA = wc := ⟨_, rfl⟩
    obtain ⟨aq, cq, rfl, hQ, hB0⟩ := hcut
    clear w1 hne hmk
    have hmk := fun (w : World) => run_make_row' (P := Try.prog) 33 3 (.int .i64 0) 8 Try.underlying33 info3 rfl .i64 .i64 (len1 + 1) (by omega) (by omega) w
    have ec : ((len1 + 1 : Nat) : Int) = (len1 : Int) + 1 := by omega
    rw [ec] at hmk
    clear ec
    obtain ⟨Q, hQd⟩ : ∃ Q : Nat → Int, Q = fun i => z1.getD i 0 := ⟨_, rfl⟩
    rw [← hQd] at hQ
    clear hQd
    have hst := RunAt.start hB0 hQ
    go_wp2
    clear hmk
    go_loopw [9] (fun i wr => ∃ j : Nat, j ≤ len1 + 1 ∧ i = .int .i64 j ∧ RunAt w aq len1 cq Q wA.heap.size (wA.heap.size + 1) (wA.heap.size + 1 + 1) b0 (fun s => if s < j then (s : Int) else 0) (fun _ => 0) wr) (fun i _ => len1 + 1 - (intOf i).toNat)
    case atStart => exact ⟨0, by omega, rfl, hst.congr (fun _ _ => rfl) (fun _ _ => by simp) (fun _ _ => rfl)⟩
    case round =>
      clear hst hQ
      obtain ⟨j, hj, rfl, hR⟩ := hrel
      by_cases hlt : j < len1 + 1
      · have hc := hR.pr.cell hlt
        have hf := hR.pr.frozen j
        go_wp2
        go_roundw
        case rel => 
          refine ⟨j + 1, by omega, by go_num, (hR.setP j j).congr (fun _ _ => rfl) (fun s hs => ?_) (fun _ _ => rfl)⟩
          split
          · rw [if_pos (by omega)]; simp [*]
          · by_cases h : s < j
            · rw [if_pos h, if_pos (by omega)]
            · rw [if_neg h, if_neg (by omega)]
        case measure => simp [intOf]; omega
      · obtain rfl : j = len1 + 1 := by omega
        have hp := fun (h : 0 < len0) => w0.at h
        clear w0
        obtain ⟨Pf, hPf⟩ : ∃ Pf : Nat → Int, Pf = fun i => z0.getD i 0 := ⟨_, rfl⟩
        have hp' : 0 < len0 → ∃ b off, a0 = some ⟨b, off, none⟩ ∧ b < w.heap.size ∧ ∀ j, j < len0 → w.cell? ⟨b, off + j, none⟩ = some (.int .i32 (Pf j)) := by rw [hPf]; exact hp
        have HP : Hid _ := hp'
        clear hp hp' hPf
        have hR1 : RunAt w aq len1 cq Q wA.heap.size (wA.heap.size + 1) (wA.heap.size + 1 + 1) (bc Pf Q len1 0) (ed Pf Q 0) (fun _ => 0) wr :=
          hR.congr (fun t ht => b0_bc Pf Q len1 t ht) (fun j hj => by rw [if_pos hj]; rfl) (fun _ _ => rfl)
        clear hR
        go_wp2
        obtain ⟨wo, rfl⟩ : ∃ wo : World, wo = wr := ⟨_, rfl⟩
        go_loopw [7, 8, 10] (fun pv cv i wr => ∃ K pb cb : Nat, K ≤ len0 ∧ i = .int .i64 ((K : Int) + 1) ∧ pv = .slice (some ⟨pb, 0, none⟩) (len1 + 1) (len1 + 1) ∧ cv = .slice (some ⟨cb, 0, none⟩) (len1 + 1) (len1 + 1) ∧
            ∃ C, RunAt w aq len1 cq Q wA.heap.size pb cb (bc Pf Q len1 K) (ed Pf Q K) C wr) (fun _ _ i _ => len0 + 1 - (intOf i).toNat)
        case atStart => exact ⟨0, _, _, by omega, rfl, rfl, rfl, _, hR1⟩
        case round =>
          clear hR1
          obtain ⟨K, pb, cb, hK, rfl, rfl, rfl, C, hR⟩ := hrel
          by_cases hlt : K < len0
          · obtain ⟨pA, pO, rfl, hplt, hpc⟩ := HP.out (by omega)
            clear HP
            have hpK : wr.cell? ⟨pA, pO + K, none⟩ = some (.int .i32 (Pf K)) := (hR.below.cell hplt).trans (hpc K hlt)
            have r0 := hR.bb.cell (i := 0) (by omega); have r1 := hR.bb.cell (i := 1) (by omega); have r2 := hR.bb.cell (i := 2) (by omega); have r3 := hR.bb.cell (i := 3) (by omega); have r4 := hR.bb.cell (i := 4) (by omega)
            have hi1 : (K : Int) < (len0 : Int) := by omega
            have hi2 : IntKind.i64.wrap (K : Int) = (K : Int) := IntWalk.i64_in _ (by omega)
            go_upto_region 19 with fail
            go_cut [] (fun wx => RunAt w aq len1 cq Q wA.heap.size pb cb (bc Pf Q len1 (K + 1)) (ed Pf Q K) C wx)
            case first =>
              have hlt2 : wA.heap.size ≤ wr.drew.heap.size := Nat.le_of_lt hR.bb.lt
              have HL : Hid _ := hlt2
              clear hlt2
              go_region_with (go_at_call 13; refine (zznext_bc hR.drew.isq HL.out (by omega) Pf K (by omega)).mono ?_; rintro e w2 ⟨rfl, hb2⟩; have hR2 := hR.drew.next hb2; have s0 := hR2.bb.cell (i := 0) (by omega); have s1 := hR2.bb.cell (i := 1) (by omega); have s2 := hR2.bb.cell (i := 2) (by omega); have s3 := hR2.bb.cell (i := 3) (by omega); have s4 := hR2.bb.cell (i := 4) (by omega); have f0 := hR2.bb.frozen 0; have f1 := hR2.bb.frozen 1; have f2 := hR2.bb.frozen 2; have f3 := hR2.bb.frozen 3; have f4 := hR2.bb.frozen 4)
              all_goals go_wp2_with fail
              all_goals go_meet
              all_goals exact RunAt.setAll (by assumption) _
            case rest =>
              obtain ⟨wB, rfl⟩ : ∃ wB : World, wB = wc := ⟨_, rfl⟩
              clear hR r0 r1 r2 r3 r4 hpK
              have hc0 := hcut.cu.cell (i := 0) (by omega)
              have hf0 := hcut.cu.frozen 0
              go_wp2
              have hS := (hcut.setC 0 ((K : Int) + 1)).congr (C' := fun s => if s < 1 then ed Pf Q (K + 1) s else C s) (fun _ _ => rfl) (fun _ _ => rfl) (fun s _ => by
                by_cases h : s = 0
                · subst h; rfl
                · rw [if_neg h, if_neg (by omega)])
              clear hcut hc0 hf0
              go_loopw [11] (fun i wr => ∃ j : Nat, j ≤ len1 ∧ i = .int .i64 ((j : Int) + 1) ∧ RunAt w aq len1 cq Q wA.heap.size pb cb (bc Pf Q len1 (K + 1)) (ed Pf Q K) (fun s => if s < j + 1 then ed Pf Q (K + 1) s else C s) wr) (fun i _ => len1 + 1 - (intOf i).toNat)
              case atStart => exact ⟨0, by omega, rfl, hS⟩
              case round =>
                clear hS
                obtain ⟨j, hj, rfl, hR⟩ := hrel
                by_cases hlj : j < len1
                · rcases hR.isq with ⟨_, h0, _⟩ | ⟨qb, rfl, hq1, hq2, hq3⟩
                  · omega
                  have hqc := hq3.cell hlj
                  have hpK : wr.cell? ⟨pA, pO + K, none⟩ = some (.int .i32 (Pf K)) := (hR.below.cell hplt).trans (hpc K hlt)
                  have hp1 := hR.pr.cell (i := j) (by omega)
                  have hp2 := hR.pr.cell (i := j + 1) (by omega)
                  have hc1 := hR.cu.cell (i := j) (by omega)
                  rw [if_pos (by omega)] at hc1
                  have hc2 := hR.cu.cell (i := j + 1) (by omega)
                  have hf2 := hR.cu.frozen (j + 1)
                  have d1 := ed_lo Pf Q K j; have d2 := ed_lo Pf Q K (j + 1); have d3 := ed_lo Pf Q (K + 1) j
                  have g1 := ed_hi Pf Q K j; have g2 := ed_hi Pf Q K (j + 1); have g3 := ed_hi Pf Q (K + 1) j
                  clear hq3
                  by_cases hqr : Q j = Pf K
                  · have hq' : (Q j != Pf K) = false := by simp [hqr]
                    have HQ : Hid _ := hqr
                    clear hqr
                    go_wp2
                    all_goals go_region
                    all_goals go_wp2
                    all_goals go_roundw
                    all_goals try (case rel => exact ⟨j + 1, by omega, by go_num, hR.drew.stepC (by rw [ed_succ, if_pos HQ.out]; omega)⟩)
                    all_goals (simp [intOf]; omega)
                  · have hq' : (Q j != Pf K) = true := by simp [hqr]
                    have HQ : Hid _ := hqr
                    clear hqr
                    go_wp2
                    all_goals go_region
                    all_goals go_wp2
                    all_goals go_roundw
                    all_goals try (case rel => exact ⟨j + 1, by omega, by go_num, hR.drew.stepC (by rw [ed_succ, if_neg HQ.out]; omega)⟩)
                    all_goals (simp [intOf]; omega)
                · obtain rfl : j = len1 := by omega
                  have hR2 := hR.congr (C' := ed Pf Q (K + 1)) (fun _ _ => rfl) (fun _ _ => rfl) (fun s hs => if_pos hs)
                  clear hR
                  go_wp2
                  obtain ⟨wC, rfl⟩ : ∃ wC : World, wC = wr := ⟨_, rfl⟩
                  go_loop [14] (fun i => ∃ t : Nat, t ≤ 5 ∧ i = .int .i64 t) (fun i => 5 - (intOf i).toNat)
                  case atStart => exact ⟨0, by omega, rfl⟩
                  case round =>
                    obtain ⟨t, ht5, rfl⟩ := hrel
                    by_cases ht : t < 5
                    · have hbb := hR2.bb.cell ht
                      simp only [want_of] at hbb
                      by_cases hA : 0 ≤ (K : Int) + 1 - 2 + t
                      · by_cases hB : (K : Int) + 1 - 2 + t ≤ (j : Int)
                        · have hcc := hR2.cu.cell (i := ((K : Int) + 1 - 2 + t).toNat) (by omega)
                          by_cases hC : ed Pf Q (K + 1) ((K : Int) + 1 - 2 + t).toNat < 3
                          · rw [if_pos ⟨hA, hB, hC⟩] at hbb
                            have hd := ed_lo Pf Q (K + 1) ((K : Int) + 1 - 2 + t).toNat
                            go_wp2
                            go_round
                            case rel => exact ⟨t + 1, by omega, by go_num⟩
                            case measure => simp [intOf]; omega
                          · rw [if_neg (by omega)] at hbb
                            go_wp2
                            go_round
                            case rel => exact ⟨t + 1, by omega, by go_num⟩
                            case measure => simp [intOf]; omega
                        · rw [if_neg (by omega)] at hbb
                          go_wp2
                          go_round
                          case rel => exact ⟨t + 1, by omega, by go_num⟩
                          case measure => simp [intOf]; omega
                      · rw [if_neg (by omega)] at hbb
                        go_wp2
                        go_round
                        case rel => exact ⟨t + 1, by omega, by go_num⟩
                        case measure => simp [intOf]; omega
                    · go_wp2
                      go_roundw
                      case rel => exact ⟨K + 1, cb, pb, by omega, by go_num, rfl, rfl, _, hR2.swap⟩
                      case measure => simp [intOf]; omega
          · go_wp2
            go_ret
            exact ⟨rfl, hR.below⟩
end Go.Proofs.Qxb6601204a
