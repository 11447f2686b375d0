/-
  THE WALK OF '(band).next' AND OF 'ZZbandNext': each computes the five cells of the plain function 'nx'.
-/
import Derived.Test.Qxb6601204aProg
import Derived.Test.Qxb6601204aBandPlain
import Derived.WalkKit
import Derived.WalkLawsBesides
import Derived.WalkSpells
namespace Go.Proofs.Qxb6601204a
open Go.RowKit
open Band

/-- What the round of 'next' knows of its world. -/
structure NextAt (w wr : World) (b : Nat → Int) (R : Nat → Int) : Prop where
  below : Below w.heap.size w wr
  size : w.heap.size + 3 ≤ wr.heap.size
  box : ∀ s, s < 5 → wr.cell? ⟨w.heap.size, s, none⟩ = some (.int .i8 (b s))
  res : ∀ s, s < 5 → wr.cell? ⟨w.heap.size + 1, s, none⟩ = some (.int .i8 0)
  resf : ∀ s, s < 5 → wr.frozen? ⟨w.heap.size + 1, s, none⟩ = false
  row : ∀ s, s < 5 → wr.cell? ⟨w.heap.size + 1 + 1, s, none⟩ = some (.int .i8 (R s))
  rowf : ∀ s, s < 5 → wr.frozen? ⟨w.heap.size + 1 + 1, s, none⟩ = false

/-- The row's first t cells are done. -/
def done (F : Nat → Int) (t : Nat) : Nat → Int := fun s => if s < t then F s else 0
/-- Cell t is v. -/
def putAt (t : Nat) (v : Int) (R : Nat → Int) : Nat → Int := fun s => if s = t then v else R s
theorem putAt_same (t : Nat) (v : Int) (R : Nat → Int) : putAt t v R t = v := if_pos rfl
theorem putAt_prev (t : Nat) (v : Int) (F : Nat → Int) (h : 0 < t) : putAt t v (done F t) (t - 1) = F (t - 1) := by
  unfold putAt done; rw [if_neg (by omega), if_pos (by omega)]
theorem done_prev (t : Nat) (F : Nat → Int) (h : 0 < t) : done F t (t - 1) = F (t - 1) := by
  unfold done; rw [if_pos (by omega)]

theorem NextAt.drew {w wr : World} {b R : Nat → Int} (h : NextAt w wr b R) : NextAt w wr.drew b R :=
  ⟨h.below.drew, h.size, h.box, h.res, h.resf, h.row, h.rowf⟩

theorem NextAt.congr {w wr : World} {b R R' : Nat → Int} (h : NextAt w wr b R) (e : ∀ s, s < 5 → R s = R' s) : NextAt w wr b R' :=
  ⟨h.below, h.size, h.box, h.res, h.resf, fun s hs => by rw [← e s hs]; exact h.row s hs, h.rowf⟩

theorem NextAt.set {w wr : World} {b R : Nat → Int} (h : NextAt w wr b R) (t : Nat) (ht : t < 5) (v : Int) :
    NextAt w (wr.setCell ⟨w.heap.size + 1 + 1, t, none⟩ (.int .i8 v)) b (putAt t v R) := by
  unfold putAt
  refine ⟨h.below.setCell (by simp only; omega) _, by simpa [World.setCell] using h.size, fun s hs => ?_, fun s hs => ?_, fun s hs => ?_, fun s hs => ?_, fun s hs => ?_⟩
  · rw [World.cell?_setCell_other _ _ _ _ (by intro e; injection e with e1 e2; omega)]; exact h.box s hs
  · rw [World.cell?_setCell_other _ _ _ _ (by intro e; injection e with e1 e2; omega)]; exact h.res s hs
  · rw [World.frozen?_setCell]; exact h.resf s hs
  · by_cases e : s = t
    · subst e; rw [World.cell?_setCell_same _ _ _ (h.row s hs), if_pos rfl]
    · rw [World.cell?_setCell_other _ _ _ _ (by intro e'; injection e' with e1 e2; omega), if_neg e]; exact h.row s hs
  · rw [World.frozen?_setCell]; exact h.rowf s hs

theorem NextAt.set2 {w wr : World} {b R : Nat → Int} {t : Nat} {u : Int} (h : NextAt w wr b (putAt t u R)) (ht : t < 5) (v : Int) :
    NextAt w (wr.setCell ⟨w.heap.size + 1 + 1, t, none⟩ (.int .i8 v)) b (putAt t v R) :=
  (h.set t ht v).congr (fun s _ => by unfold putAt; split <;> rfl)

theorem NextAt.close {w wr : World} {b F : Nat → Int} {t : Nat} {v : Int} (h : NextAt w wr b (putAt t v (done F t))) (hv : v = F t) : NextAt w wr b (done F (t + 1)) :=
  h.congr (fun s _ => by
    unfold putAt done
    by_cases e : s = t
    · subst e; rw [if_pos rfl, if_pos (by omega), hv]
    · rw [if_neg e]
      by_cases e2 : s < t
      · rw [if_pos e2, if_pos (by omega)]
      · rw [if_neg e2, if_neg (by omega)])

theorem NextAt.start (w : World) (b F : Nat → Int) : NextAt w (((w.alloc (.cells #[.int .i8 (b 0), .int .i8 (b 1), .int .i8 (b 2), .int .i8 (b 3), .int .i8 (b 4)] 34)).alloc
      (.cells #[.int .i8 0, .int .i8 0, .int .i8 0, .int .i8 0, .int .i8 0] 34)).alloc (.cells #[.int .i8 0, .int .i8 0, .int .i8 0, .int .i8 0, .int .i8 0] 34)) b (done F 0) := by
  have hR : ∀ s, done F 0 s = 0 := fun s => if_neg (by omega)
  refine ⟨(((Below.refl _ _).alloc (Nat.le_refl _) _).alloc (by simp) _).alloc (by simp; omega) _, by simp, fun s hs => ?_, fun s hs => ?_, fun s hs => ?_, fun s hs => ?_, fun s hs => ?_⟩
  all_goals (rcases (by omega : s = 0 ∨ s = 1 ∨ s = 2 ∨ s = 3 ∨ s = 4) with rfl | rfl | rfl | rfl | rfl <;> simp [go_sem, hR])

set_option maxHeartbeats 1600000 in
theorem next_some (b : Nat → Int) (r k : Int) (q : Nat → Int) (qb qo len cap : Nat) (w : World) (hb : ∀ s, s < 5 → -128 ≤ b s ∧ b s ≤ 3) (hk : -2 ≤ k) (hk2 : k ≤ 2097152) (hlen : len ≤ 1048576)
    (hq : ∀ i, i < len → w.cell? ⟨qb, qo + i, none⟩ = some (.int .i32 (q i))) (hqb : qb < w.heap.size) :
    Calls Try.prog 18 #[.agg #[.int .i8 (b 0), .int .i8 (b 1), .int .i8 (b 2), .int .i8 (b 3), .int .i8 (b 4)], .int .i32 r, .int .i64 k, .slice (some ⟨qb, qo, none⟩) len cap] w fun e w' =>
      e = .returned (.agg #[.int .i8 (nx b r k q len 0), .int .i8 (nx b r k q len 1), .int .i8 (nx b r k q len 2), .int .i8 (nx b r k q len 3), .int .i8 (nx b r k q len 4)]) ∧ Below w.heap.size w w' := by
  go_enter Try.func18, Try.ntmps18
  go_wp2
  go_loopw [13] (fun i wr => ∃ t : Nat, t ≤ 5 ∧ i = .int .i64 t ∧ NextAt w wr b (done (nx b r k q len) t)) (fun i _ => 5 - (intOf i).toNat)
  case atStart => exact ⟨0, by omega, rfl, NextAt.start w b _⟩
  case round =>
    obtain ⟨t, ht5, rfl, hN⟩ := hrel
    by_cases ht : t < 5
    · have hrow := hN.row t ht
      have hrowf := hN.rowf t ht
      by_cases hj : k - 2 + t < 0
      · go_wp2
        go_roundw
        case rel => exact ⟨t + 1, by omega, by go_num, (hN.set t ht 3).close (nx_out (.inl hj)).symm⟩
        case measure => simp [intOf]; omega
      by_cases hj2 : (len : Int) < k - 2 + t
      · go_wp2
        go_roundw
        case rel => exact ⟨t + 1, by omega, by go_num, (hN.set t ht 3).close (nx_out (.inr hj2)).symm⟩
        case measure => simp [intOf]; omega
      by_cases ht4 : t + 1 < 5
      · by_cases ht0 : 0 < t
        · by_cases hj0 : 0 < k - 2 + t
          · have hbx1 := hN.box (t + 1) ht4
            have hbt1 := hb (t + 1) ht4
            go_wp2
            go_region
            generalize hV1 : (if b (t + 1) + 1 < 3 then b (t + 1) + 1 else 3) = V1
            have b1 : -128 ≤ V1 ∧ V1 ≤ 3 := by subst hV1; split <;> omega
            have e1 : Hid (V1 = min 3 (b (t + 1) + 1)) := by subst hV1; exact ite_min _ _
            clear hV1
            generalize hw1 : ((wr.setCell ⟨w.heap.size + 1 + 1, t, none⟩ (.int .i8 3)).setCell ⟨w.heap.size + 1 + 1, t, none⟩ (.int .i8 V1)).drew = w1
            have hN1 : NextAt w w1 b (putAt t V1 (done (nx b r k q len) t)) := by subst hw1; exact ((hN.set t ht 3).set2 ht V1).drew
            clear hw1 hN hrow hrowf hbx1
            have hrow : w1.cell? ⟨w.heap.size + 1 + 1, t, none⟩ = some (.int .i8 V1) := by have := hN1.row t ht; rwa [putAt_same] at this
            have hrowf := hN1.rowf t ht
            have hrow1 : w1.cell? ⟨w.heap.size + 1 + 1, t - 1, none⟩ = some (.int .i8 (nx b r k q len (t - 1))) := by have := hN1.row (t - 1) (by omega); rwa [putAt_prev _ _ _ ht0] at this
            have hbd := nx_bd b r k q len hb (t - 1) (by omega)
            go_wp2
            go_region
            generalize hV2 : (if nx b r k q len (t - 1) + 1 < V1 then nx b r k q len (t - 1) + 1 else V1) = V2
            have b2 : -128 ≤ V2 ∧ V2 ≤ 3 := by subst hV2; split <;> omega
            have e2 : Hid (V2 = min V1 (nx b r k q len (t - 1) + 1)) := by subst hV2; exact ite_min _ _
            clear hV2
            generalize hw2 : (w1.setCell ⟨w.heap.size + 1 + 1, t, none⟩ (.int .i8 V2)).drew = w2
            have hN2 : NextAt w w2 b (putAt t V2 (done (nx b r k q len) t)) := by subst hw2; exact (hN1.set2 ht V2).drew
            clear hw2 hN1 hrow hrowf hrow1 hbd
            have hrow : w2.cell? ⟨w.heap.size + 1 + 1, t, none⟩ = some (.int .i8 V2) := by have := hN2.row t ht; rwa [putAt_same] at this
            have hrowf := hN2.rowf t ht
            have hbx := hN2.box t ht
            have hbt := hb t ht
            have hqc : w2.cell? ⟨qb, qo + ((k - 2 + t).toNat - 1), none⟩ = some (.int .i32 (q ((k - 2 + t).toNat - 1))) := (hN2.below.cell hqb).trans (hq _ (by omega))
            by_cases hqr : q ((k - 2 + t).toNat - 1) = r
            · have hqr' : (q ((k - 2 + t).toNat - 1) != r) = false := by simp [hqr]
              have Hqr : Hid _ := hqr
              clear hqr
              go_wp2
              go_roundw
              case rel =>
                refine ⟨t + 1, by omega, by go_num, (hN2.set2 ht _).close (nx_close (by omega) (by omega) (X1 := V1) (X2 := V2) (by rw [if_pos (by omega)]; exact e1.out) (by rw [if_pos (by omega)]; exact e2.out) ?_)⟩
                rw [if_pos hj0, if_pos Hqr.out, ite_min]; simp
              case measure => simp [intOf]; omega
            · have hqr' : (q ((k - 2 + t).toNat - 1) != r) = true := by simp [hqr]
              have Hqr : Hid _ := hqr
              clear hqr
              go_wp2
              go_roundw
              case rel =>
                refine ⟨t + 1, by omega, by go_num, (hN2.set2 ht _).close (nx_close (by omega) (by omega) (X1 := V1) (X2 := V2) (by rw [if_pos (by omega)]; exact e1.out) (by rw [if_pos (by omega)]; exact e2.out) ?_)⟩
                rw [if_pos hj0, if_neg Hqr.out, ite_min]
              case measure => simp [intOf]; omega
          · have hbx1 := hN.box (t + 1) ht4
            have hbt1 := hb (t + 1) ht4
            go_wp2
            go_region
            generalize hV1 : (if b (t + 1) + 1 < 3 then b (t + 1) + 1 else 3) = V1
            have b1 : -128 ≤ V1 ∧ V1 ≤ 3 := by subst hV1; split <;> omega
            have e1 : Hid (V1 = min 3 (b (t + 1) + 1)) := by subst hV1; exact ite_min _ _
            clear hV1
            generalize hw1 : ((wr.setCell ⟨w.heap.size + 1 + 1, t, none⟩ (.int .i8 3)).setCell ⟨w.heap.size + 1 + 1, t, none⟩ (.int .i8 V1)).drew = w1
            have hN1 : NextAt w w1 b (putAt t V1 (done (nx b r k q len) t)) := by subst hw1; exact ((hN.set t ht 3).set2 ht V1).drew
            clear hw1 hN hrow hrowf hbx1
            have hrow : w1.cell? ⟨w.heap.size + 1 + 1, t, none⟩ = some (.int .i8 V1) := by have := hN1.row t ht; rwa [putAt_same] at this
            have hrowf := hN1.rowf t ht
            have hrow1 : w1.cell? ⟨w.heap.size + 1 + 1, t - 1, none⟩ = some (.int .i8 (nx b r k q len (t - 1))) := by have := hN1.row (t - 1) (by omega); rwa [putAt_prev _ _ _ ht0] at this
            have hbd := nx_bd b r k q len hb (t - 1) (by omega)
            go_wp2
            go_region
            generalize hV2 : (if nx b r k q len (t - 1) + 1 < V1 then nx b r k q len (t - 1) + 1 else V1) = V2
            have b2 : -128 ≤ V2 ∧ V2 ≤ 3 := by subst hV2; split <;> omega
            have e2 : Hid (V2 = min V1 (nx b r k q len (t - 1) + 1)) := by subst hV2; exact ite_min _ _
            clear hV2
            generalize hw2 : (w1.setCell ⟨w.heap.size + 1 + 1, t, none⟩ (.int .i8 V2)).drew = w2
            have hN2 : NextAt w w2 b (putAt t V2 (done (nx b r k q len) t)) := by subst hw2; exact (hN1.set2 ht V2).drew
            clear hw2 hN1 hrow hrowf hrow1 hbd
            have hrow : w2.cell? ⟨w.heap.size + 1 + 1, t, none⟩ = some (.int .i8 V2) := by have := hN2.row t ht; rwa [putAt_same] at this
            have hrowf := hN2.rowf t ht
            go_wp2
            go_roundw
            case rel =>
              exact ⟨t + 1, by omega, by go_num, hN2.close (nx_close (by omega) (by omega) (X1 := V1) (X2 := V2) (by rw [if_pos (by omega)]; exact e1.out) (by rw [if_pos (by omega)]; exact e2.out) (by rw [if_neg (by omega)]))⟩
            case measure => simp [intOf]; omega
        · by_cases hj0 : 0 < k - 2 + t
          · have hbx1 := hN.box (t + 1) ht4
            have hbt1 := hb (t + 1) ht4
            go_wp2
            go_region
            generalize hV1 : (if b (t + 1) + 1 < 3 then b (t + 1) + 1 else 3) = V1
            have b1 : -128 ≤ V1 ∧ V1 ≤ 3 := by subst hV1; split <;> omega
            have e1 : Hid (V1 = min 3 (b (t + 1) + 1)) := by subst hV1; exact ite_min _ _
            clear hV1
            generalize hw1 : ((wr.setCell ⟨w.heap.size + 1 + 1, t, none⟩ (.int .i8 3)).setCell ⟨w.heap.size + 1 + 1, t, none⟩ (.int .i8 V1)).drew = w1
            have hN1 : NextAt w w1 b (putAt t V1 (done (nx b r k q len) t)) := by subst hw1; exact ((hN.set t ht 3).set2 ht V1).drew
            clear hw1 hN hrow hrowf hbx1
            have hrow : w1.cell? ⟨w.heap.size + 1 + 1, t, none⟩ = some (.int .i8 V1) := by have := hN1.row t ht; rwa [putAt_same] at this
            have hrowf := hN1.rowf t ht
            have hbx := hN1.box t ht
            have hbt := hb t ht
            have hqc : w1.cell? ⟨qb, qo + ((k - 2 + t).toNat - 1), none⟩ = some (.int .i32 (q ((k - 2 + t).toNat - 1))) := (hN1.below.cell hqb).trans (hq _ (by omega))
            by_cases hqr : q ((k - 2 + t).toNat - 1) = r
            · have hqr' : (q ((k - 2 + t).toNat - 1) != r) = false := by simp [hqr]
              have Hqr : Hid _ := hqr
              clear hqr
              go_wp2
              go_roundw
              case rel =>
                refine ⟨t + 1, by omega, by go_num, (hN1.set2 ht _).close (nx_close (by omega) (by omega) (X1 := V1) (X2 := V1) (by rw [if_pos (by omega)]; exact e1.out) (by rw [if_neg (by omega)]) ?_)⟩
                rw [if_pos hj0, if_pos Hqr.out, ite_min]; simp
              case measure => simp [intOf]; omega
            · have hqr' : (q ((k - 2 + t).toNat - 1) != r) = true := by simp [hqr]
              have Hqr : Hid _ := hqr
              clear hqr
              go_wp2
              go_roundw
              case rel =>
                refine ⟨t + 1, by omega, by go_num, (hN1.set2 ht _).close (nx_close (by omega) (by omega) (X1 := V1) (X2 := V1) (by rw [if_pos (by omega)]; exact e1.out) (by rw [if_neg (by omega)]) ?_)⟩
                rw [if_pos hj0, if_neg Hqr.out, ite_min]
              case measure => simp [intOf]; omega
          · have hbx1 := hN.box (t + 1) ht4
            have hbt1 := hb (t + 1) ht4
            go_wp2
            go_region
            generalize hV1 : (if b (t + 1) + 1 < 3 then b (t + 1) + 1 else 3) = V1
            have b1 : -128 ≤ V1 ∧ V1 ≤ 3 := by subst hV1; split <;> omega
            have e1 : Hid (V1 = min 3 (b (t + 1) + 1)) := by subst hV1; exact ite_min _ _
            clear hV1
            generalize hw1 : ((wr.setCell ⟨w.heap.size + 1 + 1, t, none⟩ (.int .i8 3)).setCell ⟨w.heap.size + 1 + 1, t, none⟩ (.int .i8 V1)).drew = w1
            have hN1 : NextAt w w1 b (putAt t V1 (done (nx b r k q len) t)) := by subst hw1; exact ((hN.set t ht 3).set2 ht V1).drew
            clear hw1 hN hrow hrowf hbx1
            have hrow : w1.cell? ⟨w.heap.size + 1 + 1, t, none⟩ = some (.int .i8 V1) := by have := hN1.row t ht; rwa [putAt_same] at this
            have hrowf := hN1.rowf t ht
            go_wp2
            go_roundw
            case rel =>
              exact ⟨t + 1, by omega, by go_num, hN1.close (nx_close (by omega) (by omega) (X1 := V1) (X2 := V1) (by rw [if_pos (by omega)]; exact e1.out) (by rw [if_neg (by omega)]) (by rw [if_neg (by omega)]))⟩
            case measure => simp [intOf]; omega
      · have ht0 : 0 < t := by omega
        by_cases hj0 : 0 < k - 2 + t
        · have hrow1 : wr.cell? ⟨w.heap.size + 1 + 1, t - 1, none⟩ = some (.int .i8 (nx b r k q len (t - 1))) := by have := hN.row (t - 1) (by omega); rwa [done_prev _ _ ht0] at this
          have hbd := nx_bd b r k q len hb (t - 1) (by omega)
          go_wp2
          go_region
          generalize hV2 : (if nx b r k q len (t - 1) + 1 < 3 then nx b r k q len (t - 1) + 1 else 3) = V2
          have b2 : -128 ≤ V2 ∧ V2 ≤ 3 := by subst hV2; split <;> omega
          have e2 : Hid (V2 = min 3 (nx b r k q len (t - 1) + 1)) := by subst hV2; exact ite_min _ _
          clear hV2
          generalize hw2 : ((wr.setCell ⟨w.heap.size + 1 + 1, t, none⟩ (.int .i8 3)).setCell ⟨w.heap.size + 1 + 1, t, none⟩ (.int .i8 V2)).drew = w2
          have hN2 : NextAt w w2 b (putAt t V2 (done (nx b r k q len) t)) := by subst hw2; exact ((hN.set t ht 3).set2 ht V2).drew
          clear hw2 hN hrow hrowf hrow1 hbd
          have hrow : w2.cell? ⟨w.heap.size + 1 + 1, t, none⟩ = some (.int .i8 V2) := by have := hN2.row t ht; rwa [putAt_same] at this
          have hrowf := hN2.rowf t ht
          have hbx := hN2.box t ht
          have hbt := hb t ht
          have hqc : w2.cell? ⟨qb, qo + ((k - 2 + t).toNat - 1), none⟩ = some (.int .i32 (q ((k - 2 + t).toNat - 1))) := (hN2.below.cell hqb).trans (hq _ (by omega))
          by_cases hqr : q ((k - 2 + t).toNat - 1) = r
          · have hqr' : (q ((k - 2 + t).toNat - 1) != r) = false := by simp [hqr]
            have Hqr : Hid _ := hqr
            clear hqr
            go_wp2
            go_roundw
            case rel =>
              refine ⟨t + 1, by omega, by go_num, (hN2.set2 ht _).close (nx_close (by omega) (by omega) (X1 := 3) (X2 := V2) (by rw [if_neg (by omega)]) (by rw [if_pos (by omega)]; exact e2.out) ?_)⟩
              rw [if_pos hj0, if_pos Hqr.out, ite_min]; simp
            case measure => simp [intOf]; omega
          · have hqr' : (q ((k - 2 + t).toNat - 1) != r) = true := by simp [hqr]
            have Hqr : Hid _ := hqr
            clear hqr
            go_wp2
            go_roundw
            case rel =>
              refine ⟨t + 1, by omega, by go_num, (hN2.set2 ht _).close (nx_close (by omega) (by omega) (X1 := 3) (X2 := V2) (by rw [if_neg (by omega)]) (by rw [if_pos (by omega)]; exact e2.out) ?_)⟩
              rw [if_pos hj0, if_neg Hqr.out, ite_min]
            case measure => simp [intOf]; omega
        · have hrow1 : wr.cell? ⟨w.heap.size + 1 + 1, t - 1, none⟩ = some (.int .i8 (nx b r k q len (t - 1))) := by have := hN.row (t - 1) (by omega); rwa [done_prev _ _ ht0] at this
          have hbd := nx_bd b r k q len hb (t - 1) (by omega)
          go_wp2
          go_region
          generalize hV2 : (if nx b r k q len (t - 1) + 1 < 3 then nx b r k q len (t - 1) + 1 else 3) = V2
          have b2 : -128 ≤ V2 ∧ V2 ≤ 3 := by subst hV2; split <;> omega
          have e2 : Hid (V2 = min 3 (nx b r k q len (t - 1) + 1)) := by subst hV2; exact ite_min _ _
          clear hV2
          generalize hw2 : ((wr.setCell ⟨w.heap.size + 1 + 1, t, none⟩ (.int .i8 3)).setCell ⟨w.heap.size + 1 + 1, t, none⟩ (.int .i8 V2)).drew = w2
          have hN2 : NextAt w w2 b (putAt t V2 (done (nx b r k q len) t)) := by subst hw2; exact ((hN.set t ht 3).set2 ht V2).drew
          clear hw2 hN hrow hrowf hrow1 hbd
          have hrow : w2.cell? ⟨w.heap.size + 1 + 1, t, none⟩ = some (.int .i8 V2) := by have := hN2.row t ht; rwa [putAt_same] at this
          have hrowf := hN2.rowf t ht
          go_wp2
          go_roundw
          case rel =>
            exact ⟨t + 1, by omega, by go_num, hN2.close (nx_close (by omega) (by omega) (X1 := 3) (X2 := V2) (by rw [if_neg (by omega)]) (by rw [if_pos (by omega)]; exact e2.out) (by rw [if_neg (by omega)]))⟩
          case measure => simp [intOf]; omega
    · obtain rfl : t = 5 := by omega
      have r0 := hN.row 0 (by omega); have r1 := hN.row 1 (by omega); have r2 := hN.row 2 (by omega); have r3 := hN.row 3 (by omega); have r4 := hN.row 4 (by omega)
      have s0 := hN.res 0 (by omega); have s1 := hN.res 1 (by omega); have s2 := hN.res 2 (by omega); have s3 := hN.res 3 (by omega); have s4 := hN.res 4 (by omega)
      have f0 := hN.resf 0 (by omega); have f1 := hN.resf 1 (by omega); have f2 := hN.resf 2 (by omega); have f3 := hN.resf 3 (by omega); have f4 := hN.resf 4 (by omega)
      have hB := hN.below
      clear hN
      rw [done, if_pos (by omega)] at r0 r1 r2 r3 r4
      go_wp2
      refine bodyPost_ret (v := .agg #[.int .i8 (nx b r k q len 0), .int .i8 (nx b r k q len 1), .int .i8 (nx b r k q len 2), .int .i8 (nx b r k q len 3), .int .i8 (nx b r k q len 4)]) (by simp [results, Try.results18, go_sem, s0, s1, s2, s3, s4]) rfl ⟨rfl, ?_⟩
      exact ((((hB.setCell (by simp) _).setCell (by simp) _).setCell (by simp) _).setCell (by simp) _).setCell (by simp) _

set_option maxHeartbeats 1600000 in
theorem next_nil (b : Nat → Int) (r k : Int) (q : Nat → Int) (w : World) (hb : ∀ s, s < 5 → -128 ≤ b s ∧ b s ≤ 3) (hk : -2 ≤ k) (hk2 : k ≤ 2097152) :
    Calls Try.prog 18 #[.agg #[.int .i8 (b 0), .int .i8 (b 1), .int .i8 (b 2), .int .i8 (b 3), .int .i8 (b 4)], .int .i32 r, .int .i64 k, .slice none 0 0] w fun e w' =>
      e = .returned (.agg #[.int .i8 (nx b r k q 0 0), .int .i8 (nx b r k q 0 1), .int .i8 (nx b r k q 0 2), .int .i8 (nx b r k q 0 3), .int .i8 (nx b r k q 0 4)]) ∧ Below w.heap.size w w' := by
  go_enter Try.func18, Try.ntmps18
  go_wp2
  go_loopw [13] (fun i wr => ∃ t : Nat, t ≤ 5 ∧ i = .int .i64 t ∧ NextAt w wr b (done (nx b r k q 0) t)) (fun i _ => 5 - (intOf i).toNat)
  case atStart => exact ⟨0, by omega, rfl, NextAt.start w b _⟩
  case round =>
    obtain ⟨t, ht5, rfl, hN⟩ := hrel
    by_cases ht : t < 5
    · have hrow := hN.row t ht
      have hrowf := hN.rowf t ht
      by_cases hj : k - 2 + t < 0
      · go_wp2
        go_roundw
        case rel => exact ⟨t + 1, by omega, by go_num, (hN.set t ht 3).close (nx_out (.inl hj)).symm⟩
        case measure => simp [intOf]; omega
      by_cases hj2 : (0 : Int) < k - 2 + t
      · go_wp2
        go_roundw
        case rel => exact ⟨t + 1, by omega, by go_num, (hN.set t ht 3).close (nx_out (.inr hj2)).symm⟩
        case measure => simp [intOf]; omega
      by_cases ht4 : t + 1 < 5
      · by_cases ht0 : 0 < t
        · have hj0 : ¬ 0 < k - 2 + t := by omega
          have hbx1 := hN.box (t + 1) ht4
          have hbt1 := hb (t + 1) ht4
          go_wp2
          go_region
          generalize hV1 : (if b (t + 1) + 1 < 3 then b (t + 1) + 1 else 3) = V1
          have b1 : -128 ≤ V1 ∧ V1 ≤ 3 := by subst hV1; split <;> omega
          have e1 : Hid (V1 = min 3 (b (t + 1) + 1)) := by subst hV1; exact ite_min _ _
          clear hV1
          generalize hw1 : ((wr.setCell ⟨w.heap.size + 1 + 1, t, none⟩ (.int .i8 3)).setCell ⟨w.heap.size + 1 + 1, t, none⟩ (.int .i8 V1)).drew = w1
          have hN1 : NextAt w w1 b (putAt t V1 (done (nx b r k q 0) t)) := by subst hw1; exact ((hN.set t ht 3).set2 ht V1).drew
          clear hw1 hN hrow hrowf hbx1
          have hrow : w1.cell? ⟨w.heap.size + 1 + 1, t, none⟩ = some (.int .i8 V1) := by have := hN1.row t ht; rwa [putAt_same] at this
          have hrowf := hN1.rowf t ht
          have hrow1 : w1.cell? ⟨w.heap.size + 1 + 1, t - 1, none⟩ = some (.int .i8 (nx b r k q 0 (t - 1))) := by have := hN1.row (t - 1) (by omega); rwa [putAt_prev _ _ _ ht0] at this
          have hbd := nx_bd b r k q 0 hb (t - 1) (by omega)
          go_wp2
          go_region
          generalize hV2 : (if nx b r k q 0 (t - 1) + 1 < V1 then nx b r k q 0 (t - 1) + 1 else V1) = V2
          have b2 : -128 ≤ V2 ∧ V2 ≤ 3 := by subst hV2; split <;> omega
          have e2 : Hid (V2 = min V1 (nx b r k q 0 (t - 1) + 1)) := by subst hV2; exact ite_min _ _
          clear hV2
          generalize hw2 : (w1.setCell ⟨w.heap.size + 1 + 1, t, none⟩ (.int .i8 V2)).drew = w2
          have hN2 : NextAt w w2 b (putAt t V2 (done (nx b r k q 0) t)) := by subst hw2; exact (hN1.set2 ht V2).drew
          clear hw2 hN1 hrow hrowf hrow1 hbd
          have hrow : w2.cell? ⟨w.heap.size + 1 + 1, t, none⟩ = some (.int .i8 V2) := by have := hN2.row t ht; rwa [putAt_same] at this
          have hrowf := hN2.rowf t ht
          go_wp2
          go_roundw
          case rel =>
            exact ⟨t + 1, by omega, by go_num, hN2.close (nx_close (by omega) (by omega) (X1 := V1) (X2 := V2) (by rw [if_pos (by omega)]; exact e1.out) (by rw [if_pos (by omega)]; exact e2.out) (by rw [if_neg (by omega)]))⟩
          case measure => simp [intOf]; omega
        · have hj0 : ¬ 0 < k - 2 + t := by omega
          have hbx1 := hN.box (t + 1) ht4
          have hbt1 := hb (t + 1) ht4
          go_wp2
          go_region
          generalize hV1 : (if b (t + 1) + 1 < 3 then b (t + 1) + 1 else 3) = V1
          have b1 : -128 ≤ V1 ∧ V1 ≤ 3 := by subst hV1; split <;> omega
          have e1 : Hid (V1 = min 3 (b (t + 1) + 1)) := by subst hV1; exact ite_min _ _
          clear hV1
          generalize hw1 : ((wr.setCell ⟨w.heap.size + 1 + 1, t, none⟩ (.int .i8 3)).setCell ⟨w.heap.size + 1 + 1, t, none⟩ (.int .i8 V1)).drew = w1
          have hN1 : NextAt w w1 b (putAt t V1 (done (nx b r k q 0) t)) := by subst hw1; exact ((hN.set t ht 3).set2 ht V1).drew
          clear hw1 hN hrow hrowf hbx1
          have hrow : w1.cell? ⟨w.heap.size + 1 + 1, t, none⟩ = some (.int .i8 V1) := by have := hN1.row t ht; rwa [putAt_same] at this
          have hrowf := hN1.rowf t ht
          go_wp2
          go_roundw
          case rel =>
            exact ⟨t + 1, by omega, by go_num, hN1.close (nx_close (by omega) (by omega) (X1 := V1) (X2 := V1) (by rw [if_pos (by omega)]; exact e1.out) (by rw [if_neg (by omega)]) (by rw [if_neg (by omega)]))⟩
          case measure => simp [intOf]; omega
      · have ht0 : 0 < t := by omega
        have hj0 : ¬ 0 < k - 2 + t := by omega
        have hrow1 : wr.cell? ⟨w.heap.size + 1 + 1, t - 1, none⟩ = some (.int .i8 (nx b r k q 0 (t - 1))) := by have := hN.row (t - 1) (by omega); rwa [done_prev _ _ ht0] at this
        have hbd := nx_bd b r k q 0 hb (t - 1) (by omega)
        go_wp2
        go_region
        generalize hV2 : (if nx b r k q 0 (t - 1) + 1 < 3 then nx b r k q 0 (t - 1) + 1 else 3) = V2
        have b2 : -128 ≤ V2 ∧ V2 ≤ 3 := by subst hV2; split <;> omega
        have e2 : Hid (V2 = min 3 (nx b r k q 0 (t - 1) + 1)) := by subst hV2; exact ite_min _ _
        clear hV2
        generalize hw2 : ((wr.setCell ⟨w.heap.size + 1 + 1, t, none⟩ (.int .i8 3)).setCell ⟨w.heap.size + 1 + 1, t, none⟩ (.int .i8 V2)).drew = w2
        have hN2 : NextAt w w2 b (putAt t V2 (done (nx b r k q 0) t)) := by subst hw2; exact ((hN.set t ht 3).set2 ht V2).drew
        clear hw2 hN hrow hrowf hrow1 hbd
        have hrow : w2.cell? ⟨w.heap.size + 1 + 1, t, none⟩ = some (.int .i8 V2) := by have := hN2.row t ht; rwa [putAt_same] at this
        have hrowf := hN2.rowf t ht
        go_wp2
        go_roundw
        case rel =>
          exact ⟨t + 1, by omega, by go_num, hN2.close (nx_close (by omega) (by omega) (X1 := 3) (X2 := V2) (by rw [if_neg (by omega)]) (by rw [if_pos (by omega)]; exact e2.out) (by rw [if_neg (by omega)]))⟩
        case measure => simp [intOf]; omega
    · obtain rfl : t = 5 := by omega
      have r0 := hN.row 0 (by omega); have r1 := hN.row 1 (by omega); have r2 := hN.row 2 (by omega); have r3 := hN.row 3 (by omega); have r4 := hN.row 4 (by omega)
      have s0 := hN.res 0 (by omega); have s1 := hN.res 1 (by omega); have s2 := hN.res 2 (by omega); have s3 := hN.res 3 (by omega); have s4 := hN.res 4 (by omega)
      have f0 := hN.resf 0 (by omega); have f1 := hN.resf 1 (by omega); have f2 := hN.resf 2 (by omega); have f3 := hN.resf 3 (by omega); have f4 := hN.resf 4 (by omega)
      have hB := hN.below
      clear hN
      rw [done, if_pos (by omega)] at r0 r1 r2 r3 r4
      go_wp2
      refine bodyPost_ret (v := .agg #[.int .i8 (nx b r k q 0 0), .int .i8 (nx b r k q 0 1), .int .i8 (nx b r k q 0 2), .int .i8 (nx b r k q 0 3), .int .i8 (nx b r k q 0 4)]) (by simp [results, Try.results18, go_sem, s0, s1, s2, s3, s4]) rfl ⟨rfl, ?_⟩
      exact ((((hB.setCell (by simp) _).setCell (by simp) _).setCell (by simp) _).setCell (by simp) _).setCell (by simp) _

end Go.Proofs.Qxb6601204a
