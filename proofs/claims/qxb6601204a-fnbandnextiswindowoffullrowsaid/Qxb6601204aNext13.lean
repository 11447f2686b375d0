/-
  'ZZbandNext': the contract of 'next', handed on.
-/
import Derived.Test.Qxb6601204aNext
namespace Go.Proofs.Qxb6601204a
open Go.RowKit
open Band

/-- The cells and the marks of 'ZZbandNext''s result block, behind the call of 'next'. -/
theorem res_block {w w1 : World} {o : Obj} (hb : Below (w.heap.size + 1 + 1) ((w.alloc o).alloc (.cells #[.int .i8 0, .int .i8 0, .int .i8 0, .int .i8 0, .int .i8 0] 27)) w1) :
    ∀ s, s < 5 → w1.cell? ⟨w.heap.size + 1, s, none⟩ = some (.int .i8 0) ∧ w1.frozen? ⟨w.heap.size + 1, s, none⟩ = false := by
  intro s hs
  rw [hb.cell (p := ⟨w.heap.size + 1, s, none⟩) (by simp), hb.frozen (p := ⟨w.heap.size + 1, s, none⟩) (by simp)]
  rcases (by omega : s = 0 ∨ s = 1 ∨ s = 2 ∨ s = 3 ∨ s = 4) with rfl | rfl | rfl | rfl | rfl <;> simp [go_sem]

theorem zznext_some (b : Nat → Int) (r k : Int) (q : Nat → Int) (qb qo len cap : Nat) (w : World) (hb : ∀ s, s < 5 → -128 ≤ b s ∧ b s ≤ 3) (hk : -2 ≤ k) (hk2 : k ≤ 2097152) (hlen : len ≤ 1048576)
    (hq : ∀ i, i < len → w.cell? ⟨qb, qo + i, none⟩ = some (.int .i32 (q i))) (hqb : qb < w.heap.size) :
    Calls Try.prog 13 #[.agg #[.int .i8 (b 0), .int .i8 (b 1), .int .i8 (b 2), .int .i8 (b 3), .int .i8 (b 4)], .int .i32 r, .int .i64 k, .slice (some ⟨qb, qo, none⟩) len cap] w fun e w' =>
      e = .returned (.agg #[.int .i8 (nx b r k q len 0), .int .i8 (nx b r k q len 1), .int .i8 (nx b r k q len 2), .int .i8 (nx b r k q len 3), .int .i8 (nx b r k q len 4)]) ∧ Below w.heap.size w w' := by
  go_enter Try.func13, Try.ntmps13
  go_wp2_with fail
  refine (next_some b r k q qb qo len cap _ hb hk hk2 hlen ?_ ?_).mono ?_
  · intro i hi
    rw [World.cell?_alloc_lt _ _ _ (by simp; omega), World.cell?_alloc_lt _ _ _ hqb]
    exact hq i hi
  · simp; omega
  rintro e w1 ⟨rfl, hb1⟩
  simp only [World.size_alloc] at hb1
  have F := res_block hb1
  obtain ⟨s0, f0⟩ := F 0 (by omega); obtain ⟨s1, f1⟩ := F 1 (by omega); obtain ⟨s2, f2⟩ := F 2 (by omega); obtain ⟨s3, f3⟩ := F 3 (by omega); obtain ⟨s4, f4⟩ := F 4 (by omega)
  clear F
  have hB : Below w.heap.size w w1 := (((Below.refl _ _).alloc (Nat.le_refl _) _).alloc (by simp) _).trans (hb1.mono (by omega))
  clear hb1
  go_wp2
  refine bodyPost_ret (v := .agg #[.int .i8 (nx b r k q len 0), .int .i8 (nx b r k q len 1), .int .i8 (nx b r k q len 2), .int .i8 (nx b r k q len 3), .int .i8 (nx b r k q len 4)]) (by simp [results, Try.results13, go_sem, s0, s1, s2, s3, s4]) rfl ⟨rfl, ?_⟩
  exact ((((hB.setCell (by simp) _).setCell (by simp) _).setCell (by simp) _).setCell (by simp) _).setCell (by simp) _

theorem zznext_nil (b : Nat → Int) (r k : Int) (q : Nat → Int) (w : World) (hb : ∀ s, s < 5 → -128 ≤ b s ∧ b s ≤ 3) (hk : -2 ≤ k) (hk2 : k ≤ 2097152) :
    Calls Try.prog 13 #[.agg #[.int .i8 (b 0), .int .i8 (b 1), .int .i8 (b 2), .int .i8 (b 3), .int .i8 (b 4)], .int .i32 r, .int .i64 k, .slice none 0 0] w fun e w' =>
      e = .returned (.agg #[.int .i8 (nx b r k q 0 0), .int .i8 (nx b r k q 0 1), .int .i8 (nx b r k q 0 2), .int .i8 (nx b r k q 0 3), .int .i8 (nx b r k q 0 4)]) ∧ Below w.heap.size w w' := by
  go_enter Try.func13, Try.ntmps13
  go_wp2_with fail
  refine (next_nil b r k q _ hb hk hk2).mono ?_
  rintro e w1 ⟨rfl, hb1⟩
  simp only [World.size_alloc] at hb1
  have F := res_block hb1
  obtain ⟨s0, f0⟩ := F 0 (by omega); obtain ⟨s1, f1⟩ := F 1 (by omega); obtain ⟨s2, f2⟩ := F 2 (by omega); obtain ⟨s3, f3⟩ := F 3 (by omega); obtain ⟨s4, f4⟩ := F 4 (by omega)
  clear F
  have hB : Below w.heap.size w w1 := (((Below.refl _ _).alloc (Nat.le_refl _) _).alloc (by simp) _).trans (hb1.mono (by omega))
  clear hb1
  go_wp2
  refine bodyPost_ret (v := .agg #[.int .i8 (nx b r k q 0 0), .int .i8 (nx b r k q 0 1), .int .i8 (nx b r k q 0 2), .int .i8 (nx b r k q 0 3), .int .i8 (nx b r k q 0 4)]) (by simp [results, Try.results13, go_sem, s0, s1, s2, s3, s4]) rfl ⟨rfl, ?_⟩
  exact ((((hB.setCell (by simp) _).setCell (by simp) _).setCell (by simp) _).setCell (by simp) _).setCell (by simp) _

end Go.Proofs.Qxb6601204a
