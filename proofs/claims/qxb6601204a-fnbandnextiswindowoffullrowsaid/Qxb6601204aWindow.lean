/-
  THE WALKS OF 'zzBandPrev' AND 'zzBandModel'; 'next' where its window lies wholly outside.
-/
import Derived.Test.Qxb6601204aNext13
import Derived.Test.Qxb6601204aWindowPlain
import Derived.Deep.DeepCutAuto
namespace Go.Proofs.Qxb6601204a
open Go.RowKit
open Band

theorem agg_cell (w : World) (b : Nat → Int) (T : TypeId) (s : Nat) (hs : s < 5) : (w.alloc (.cells #[.int .i8 (b 0), .int .i8 (b 1), .int .i8 (b 2), .int .i8 (b 3), .int .i8 (b 4)] T)).cell? ⟨w.heap.size, s, none⟩ = some (.int .i8 (b s)) := by
  rcases (by omega : s = 0 ∨ s = 1 ∨ s = 2 ∨ s = 3 ∨ s = 4) with rfl | rfl | rfl | rfl | rfl <;> simp [go_sem]

theorem prev_any (b : Nat → Int) (k j : Int) (w : World) (hb : ∀ s, s < 5 → -128 ≤ b s ∧ b s ≤ 3) (hk : -2 ≤ k) (hk2 : k ≤ 2097152) (hj : 0 ≤ j) (hj2 : j ≤ 2097152) :
    Calls Try.prog 19 #[.agg #[.int .i8 (b 0), .int .i8 (b 1), .int .i8 (b 2), .int .i8 (b 3), .int .i8 (b 4)], .int .i64 k, .int .i64 j] w fun e w' => e = .returned (.int .i64 (pv b k j)) ∧ Below w.heap.size w w' := by
  unfold pv
  by_cases h1 : j - k + 3 < 0
  · rw [if_pos (.inl h1)]
    go_enter Try.func19, Try.ntmps19
    go_wp2
    go_ret
    exact ⟨rfl, (Below.refl _ _).alloc (Nat.le_refl _) _⟩
  · by_cases h2 : 4 < j - k + 3
    · rw [if_pos (.inr h2)]
      go_enter Try.func19, Try.ntmps19
      go_wp2
      go_ret
      exact ⟨rfl, (Below.refl _ _).alloc (Nat.le_refl _) _⟩
    · rw [if_neg (by omega)]
      have hc := agg_cell w b 27 (j - k + 3).toNat (by omega)
      have hbd := hb (j - k + 3).toNat (by omega)
      go_enter Try.func19, Try.ntmps19
      go_wp2
      go_ret
      exact ⟨rfl, (Below.refl _ _).alloc (Nat.le_refl _) _⟩

theorem NextAt.next {w wr w2 : World} {b R : Nat → Int} (h : NextAt w wr b R) (hb : Below wr.heap.size wr w2) : NextAt w w2 b R := by
  have hs := h.size
  have hlt : ∀ (n s : Nat), n < w.heap.size + 3 → w2.cell? ⟨n, s, none⟩ = wr.cell? ⟨n, s, none⟩ ∧ w2.frozen? ⟨n, s, none⟩ = wr.frozen? ⟨n, s, none⟩ := fun n s hn => ⟨hb.cell (p := ⟨n, s, none⟩) (by simp only; omega), hb.frozen (p := ⟨n, s, none⟩) (by simp only; omega)⟩
  refine ⟨h.below.trans (hb.mono (by omega)), Nat.le_trans hs hb.size, fun s hs => ?_, fun s hs => ?_, fun s hs => ?_, fun s hs => ?_, fun s hs => ?_⟩
  · rw [(hlt _ s (by omega)).1]; exact h.box s hs
  · rw [(hlt _ s (by omega)).1]; exact h.res s hs
  · rw [(hlt _ s (by omega)).2]; exact h.resf s hs
  · rw [(hlt _ s (by omega)).1]; exact h.row s hs
  · rw [(hlt _ s (by omega)).2]; exact h.rowf s hs

theorem NextAt.start27 (w : World) (b F : Nat → Int) : NextAt w (((w.alloc (.cells #[.int .i8 (b 0), .int .i8 (b 1), .int .i8 (b 2), .int .i8 (b 3), .int .i8 (b 4)] 27)).alloc
      (.cells #[.int .i8 0, .int .i8 0, .int .i8 0, .int .i8 0, .int .i8 0] 27)).alloc (.cells #[.int .i8 0, .int .i8 0, .int .i8 0, .int .i8 0, .int .i8 0] 27)) b (done F 0) := by
  have hR : ∀ s, done F 0 s = 0 := fun s => if_neg (by omega)
  refine ⟨(((Below.refl _ _).alloc (Nat.le_refl _) _).alloc (by simp) _).alloc (by simp; omega) _, by simp, fun s hs => ?_, fun s hs => ?_, fun s hs => ?_, fun s hs => ?_, fun s hs => ?_⟩
  all_goals (rcases (by omega : s = 0 ∨ s = 1 ∨ s = 2 ∨ s = 3 ∨ s = 4) with rfl | rfl | rfl | rfl | rfl <;> simp [go_sem, hR])

theorem out_j {k : Int} {len t : Nat} (w0 : -9223372036854775808 ≤ k) (w1 : k ≤ 9223372036854775807) (h : k < -2 ∨ (len : Int) + 2 < k) (hlen : len ≤ 1048576) (ht : t < 5) :
    wrap64 (wrap64 (k - 2) + t) < 0 ∨ (len : Int) < wrap64 (wrap64 (k - 2) + t) := by
  unfold wrap64
  omega

set_option maxHeartbeats 1600000 in
theorem next_out (b : Nat → Int) (r k : Int) (a : Option Addr) (len cap : Nat) (w : World) (w0 : -9223372036854775808 ≤ k) (w1 : k ≤ 9223372036854775807) (hk : k < -2 ∨ (len : Int) + 2 < k) (hlen : len ≤ 1048576) :
    Calls Try.prog 18 #[.agg #[.int .i8 (b 0), .int .i8 (b 1), .int .i8 (b 2), .int .i8 (b 3), .int .i8 (b 4)], .int .i32 r, .int .i64 k, .slice a len cap] w fun e w' =>
      e = .returned (.agg #[.int .i8 3, .int .i8 3, .int .i8 3, .int .i8 3, .int .i8 3]) ∧ Below w.heap.size w w' := by
  have HJ := fun t (ht : t < 5) => out_j (t := t) w0 w1 hk hlen ht
  clear w0 w1 hk
  go_enter Try.func18, Try.ntmps18
  go_wp2
  go_loopw [13] (fun i wr => ∃ t : Nat, t ≤ 5 ∧ i = .int .i64 t ∧ NextAt w wr b (done (fun _ => 3) t)) (fun i _ => 5 - (intOf i).toNat)
  case atStart => exact ⟨0, by omega, rfl, NextAt.start w b _⟩
  case round =>
    obtain ⟨t, ht5, rfl, hN⟩ := hrel
    by_cases ht : t < 5
    · have hrow := hN.row t ht
      have hrowf := hN.rowf t ht
      rcases HJ t ht with hj | hj
      · clear HJ
        go_wp2
        go_roundw
        case rel => exact ⟨t + 1, by omega, by go_num, (hN.set t ht 3).close rfl⟩
        case measure => simp [intOf]; omega
      · have hj' : ¬ wrap64 (wrap64 (k - 2) + t) < 0 := by omega
        clear HJ
        go_wp2
        go_roundw
        case rel => exact ⟨t + 1, by omega, by go_num, (hN.set t ht 3).close rfl⟩
        case measure => simp [intOf]; omega
    · obtain rfl : t = 5 := by omega
      clear HJ
      have r0 := hN.row 0 (by omega); have r1 := hN.row 1 (by omega); have r2 := hN.row 2 (by omega); have r3 := hN.row 3 (by omega); have r4 := hN.row 4 (by omega)
      have s0 := hN.res 0 (by omega); have s1 := hN.res 1 (by omega); have s2 := hN.res 2 (by omega); have s3 := hN.res 3 (by omega); have s4 := hN.res 4 (by omega)
      have f0 := hN.resf 0 (by omega); have f1 := hN.resf 1 (by omega); have f2 := hN.resf 2 (by omega); have f3 := hN.resf 3 (by omega); have f4 := hN.resf 4 (by omega)
      have hB := hN.below
      clear hN
      rw [done, if_pos (by omega)] at r0 r1 r2 r3 r4
      go_wp2
      refine bodyPost_ret (v := .agg #[.int .i8 3, .int .i8 3, .int .i8 3, .int .i8 3, .int .i8 3]) (by simp [results, Try.results18, go_sem, s0, s1, s2, s3, s4]) rfl ⟨rfl, ?_⟩
      exact ((((hB.setCell (by simp) _).setCell (by simp) _).setCell (by simp) _).setCell (by simp) _).setCell (by simp) _

theorem zznext_out (b : Nat → Int) (r k : Int) (a : Option Addr) (len cap : Nat) (w : World) (w0 : -9223372036854775808 ≤ k) (w1 : k ≤ 9223372036854775807) (hk : k < -2 ∨ (len : Int) + 2 < k) (hlen : len ≤ 1048576) :
    Calls Try.prog 13 #[.agg #[.int .i8 (b 0), .int .i8 (b 1), .int .i8 (b 2), .int .i8 (b 3), .int .i8 (b 4)], .int .i32 r, .int .i64 k, .slice a len cap] w fun e w' =>
      e = .returned (.agg #[.int .i8 3, .int .i8 3, .int .i8 3, .int .i8 3, .int .i8 3]) ∧ Below w.heap.size w w' := by
  go_enter Try.func13, Try.ntmps13
  go_wp2_with fail
  refine (next_out b r k a len cap _ w0 w1 hk hlen).mono ?_
  rintro e w1 ⟨rfl, hb1⟩
  simp only [World.size_alloc] at hb1
  have F := res_block hb1
  obtain ⟨s0, f0⟩ := F 0 (by omega); obtain ⟨s1, f1⟩ := F 1 (by omega); obtain ⟨s2, f2⟩ := F 2 (by omega); obtain ⟨s3, f3⟩ := F 3 (by omega); obtain ⟨s4, f4⟩ := F 4 (by omega)
  clear F
  have hB : Below w.heap.size w w1 := (((Below.refl _ _).alloc (Nat.le_refl _) _).alloc (by simp) _).trans (hb1.mono (by omega))
  clear hb1
  go_wp2
  refine bodyPost_ret (v := .agg #[.int .i8 3, .int .i8 3, .int .i8 3, .int .i8 3, .int .i8 3]) (by simp [results, Try.results13, go_sem, s0, s1, s2, s3, s4]) rfl ⟨rfl, ?_⟩
  exact ((((hB.setCell (by simp) _).setCell (by simp) _).setCell (by simp) _).setCell (by simp) _).setCell (by simp) _
end Go.Proofs.Qxb6601204a
