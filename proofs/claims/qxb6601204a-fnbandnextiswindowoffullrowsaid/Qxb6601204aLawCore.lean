/-
  THE WALK OF 'FnBandNextIsWindowOfFullRow'.
-/
import Derived.Test.Qxb6601204aModel
import Derived.Deep.RegionWith
namespace Go.Proofs.Qxb6601204a
open Go.RowKit
open Band

theorem bytes12_ok (b : Nat → Int) (r k : Int) (a : Option Addr) (len cap : Nat) (w : World) (hl : len ≤ 262144) :
    Calls Try.prog 12 #[.agg #[.int .i8 (b 0), .int .i8 (b 1), .int .i8 (b 2), .int .i8 (b 3), .int .i8 (b 4)], .int .i32 r, .int .i64 k, .slice a len cap] w fun e w' => e = .returned (.bool true) ∧ Below w.heap.size w w' := by
  go_enter Try.func12, Try.ntmps12
  go_wp2
  go_ret
  exact ⟨rfl, (Below.refl _ _).alloc (Nat.le_refl _) _⟩

theorem eq27 (y0 y1 y2 y3 y4 : Int) (w : World) : (Op.equalIn 10000 27 (.agg #[.int .i8 y0, .int .i8 y1, .int .i8 y2, .int .i8 y3, .int .i8 y4]) (.agg #[.int .i8 y0, .int .i8 y1, .int .i8 y2, .int .i8 y3, .int .i8 y4])).run Try.prog w = .ok true w := by
  show (Op.equalIn (9999 + 1) 27 _ _).run _ _ = _
  unfold Op.equalIn
  simp only [Sem.run_bind, run_underlying Try.underlying27, Result.andThen_ok]
  simp [go_sem, Std.Legacy.Range.forIn_eq_forIn_range', List.range']

/-- What the law knows of its world: the boxed array. -/
structure LawAt (w : World) (b : Nat → Int) (wr : World) : Prop where
  below : Below w.heap.size w wr
  size : w.heap.size < wr.heap.size
  box : ∀ s, s < 5 → wr.cell? ⟨w.heap.size, s, none⟩ = some (.int .i8 (b s))

theorem LawAt.start (w : World) (b : Nat → Int) : LawAt w b (w.alloc (.cells #[.int .i8 (b 0), .int .i8 (b 1), .int .i8 (b 2), .int .i8 (b 3), .int .i8 (b 4)] 27)) :=
  ⟨(Below.refl _ _).alloc (Nat.le_refl _) _, by simp, fun s hs => agg_cell w b 27 s hs⟩
theorem LawAt.next {w wr w2 : World} {b : Nat → Int} (h : LawAt w b wr) (hb : Below wr.heap.size wr w2) : LawAt w b w2 :=
  ⟨h.below.trans (hb.mono (Nat.le_of_lt h.size)), Nat.lt_of_lt_of_le h.size hb.size, fun s hs => (hb.cell (p := ⟨w.heap.size, s, none⟩) h.size).trans (h.box s hs)⟩
theorem LawAt.drew {w wr : World} {b : Nat → Int} (h : LawAt w b wr) : LawAt w b wr.drew := ⟨h.below.drew, h.size, h.box⟩

theorem below_step {wA W w3 : World} (h : Below wA.heap.size wA W) (hb : Below W.heap.size W w3) : Below wA.heap.size wA w3 := h.trans (hb.mono h.size)

set_option maxRecDepth 100000 in
set_option maxHeartbeats 1600000 in
theorem law_core (b : Nat → Int) (r k : Int) (a : Option Addr) (len cap : Nat) (z : List Int) (w : World) (hw : IsRow .i32 w a len cap z) (hl : len ≤ 262144) (hb8 : ∀ s, s < 5 → -128 ≤ b s ∧ b s ≤ 127)
    (w0 : -9223372036854775808 ≤ k) (w1 : k ≤ 9223372036854775807) :
    Calls Try.prog 5 #[.agg #[.int .i8 (b 0), .int .i8 (b 1), .int .i8 (b 2), .int .i8 (b 3), .int .i8 (b 4)], .int .i32 r, .int .i64 k, .slice a len cap] w fun e w' => e = .returned (.bool true) ∧ Below w.heap.size w w' := by
  have hne := fun (w : World) => run_neq_slice_nil_any (P := Try.prog) w 28 21 a len cap 0 0 Try.underlying28
  have hmk := fun (w : World) => run_make_row' (P := Try.prog) 28 21 (.int .i32 0) 4 Try.underlying28 info21 rfl .i64 .i64 len (by omega) (by omega) w
  have HW : Hid _ := hw
  have HB : Hid _ := hb8
  have H64 : Hid _ := And.intro w0 w1
  clear hw hb8 w0 w1
  go_enter Try.func5, Try.ntmps5
  go_upto_if 21 with (go_at_call 12; refine (bytes12_ok b r k a len cap _ hl).mono ?_; rintro e w2 ⟨rfl, hb2⟩)
  have hL := (LawAt.start w b).next hb2
  clear hb2
  go_cut [3, 9] (fun q z' wc => ∃ aq c, q = .slice aq len c ∧ IsQ wc w.heap.size wc.heap.size aq len c (fun i => z.getD i 0) ∧ LawAt w b wc)
  case first =>
    rcases HW.out with ⟨rfl, rfl, rfl, rfl⟩ | ⟨x, rfl, hlc, hcm, hzl, hcell, _⟩
    · go_wp2
      go_meet
      case rel => exact ⟨none, 0, rfl, .inl ⟨rfl, rfl, rfl⟩, hL⟩
    · have hxl : 0 < len → x.block < w.heap.size := fun h => by have := cell_lt (hcell 0 (by omega)); simpa [Addr.add] using this
      have hc2 : ∀ j, j < len → (w2.alloc (.cells (madeCells #[.int .i32 0] len) 21)).cell? (x.add j) = some (.int .i32 (z.getD j 0)) := fun j hj => Lib.cell?_alloc_some _ ((hL.below.cell (cell_lt (hcell j (by omega)))).trans (hcell j (by omega)))
      have hg : (w2.alloc (.cells (madeCells #[.int .i32 0] len) 21)).heap[w2.heap.size]? = some (.cells (madeCells #[.int .i32 0] len) 21 (0, 0)) := Deep.blk_alloc_new _ _
      have hb : Below w2.heap.size w2 (w2.alloc (.cells (madeCells #[.int .i32 0] len) 21)) := (Below.refl _ _).alloc (Nat.le_refl _) _
      have HH : Hid _ := And.intro hc2 (And.intro hg hb)
      clear hc2 hg hb hcell hxl HW
      go_upto_region 7 with fail
      go_wp2_with (refine wpList_copy_full rfl (.tmp 25) (.tmp 26) 28 28 rfl 21 Try.underlying28 size21 w2.heap.size len cap x rfl rfl (.int .i32 0) 21 HH.out.2.1 (fun i => .int .i32 (z.getD i 0)) HH.out.1 (fun _ => rfl) w2.heap.size w2 HH.out.2.2 (Nat.le_refl _) ?_; intro w3 hrow hb3)
      go_meet
      case rel => exact ⟨some ⟨w2.heap.size, 0, none⟩, len, rfl, .inr ⟨w2.heap.size, rfl, Nat.le_of_lt hL.size, hrow.lt, hrow⟩, hL.next hb3⟩
  case rest =>
    obtain ⟨wA, rfl⟩ : ∃ wA : World, wA = wc := ⟨_, rfl⟩
    obtain ⟨aq, cq, rfl, hQ, hLA⟩ := hcut
    clear HW hne hmk hL
    have HQ : Hid _ := hQ
    clear hQ
    go_wp2
    go_loop [10] (fun i => ∃ t : Nat, t ≤ 5 ∧ i = .int .i64 t ∧ Hid (∀ s, s < t → b s ≤ 3)) (fun i => 5 - (intOf i).toNat)
    case atStart => exact ⟨0, by omega, rfl, fun s h => absurd h (by omega)⟩
    case round =>
      obtain ⟨t, ht5, rfl, HT⟩ := hrel
      by_cases ht : t < 5
      · have hbx := hLA.box t ht
        by_cases h3 : 3 < b t
        · go_wp2
          go_ret
          exact ⟨rfl, hLA.below⟩
        · go_wp2
          go_round
          case rel => exact ⟨t + 1, by omega, by go_num, fun s hs => by
            rcases Nat.lt_or_ge s t with h | h
            · exact HT.out s h
            · obtain rfl : s = t := by omega
              omega⟩
          case measure => simp [intOf]; omega
      · obtain rfl : t = 5 := by omega
        have x0 := hLA.box 0 (by omega); have x1 := hLA.box 1 (by omega); have x2 := hLA.box 2 (by omega); have x3 := hLA.box 3 (by omega); have x4 := hLA.box 4 (by omega)
        by_cases h2 : b 0 < 2
        · go_wp2
          go_ret
          exact ⟨rfl, hLA.below⟩
        · obtain ⟨y0, y1, y2, y3, y4, C13, C14⟩ := both_same (B := w.heap.size) (len := len) (cq := cq) (aq := aq) (q := fun i => z.getD i 0) (by omega) b r k (fun s hs => ⟨(HB.out s hs).1, HT.out s hs⟩) (by omega) H64.out.1 H64.out.2
          have K13 : Hid _ := fun W (h : Below wA.heap.size wA W) => C13 W wA.heap.size (IsQ.keep HQ.out h.block) h.size
          have K14 : Hid _ := fun W (h : Below wA.heap.size wA W) => C14 W wA.heap.size (IsQ.keep HQ.out h.block) h.size
          have he := eq27 y0 y1 y2 y3 y4
          have hb0 : Below wA.heap.size wA wA.drew := (Below.refl _ _).drew
          clear C13 C14 HB HT H64 HQ
          go_upto_region 16 with fail
          go_region_with (first
            | (go_at_call 13; refine (K13.out _ (by assumption)).mono ?_; rintro e w3 ⟨rfl, hb3⟩; have hbw := below_step (by assumption) hb3; have hL3 := hLA.next hbw; have x0 := hL3.box 0 (by omega); have x1 := hL3.box 1 (by omega); have x2 := hL3.box 2 (by omega); have x3 := hL3.box 3 (by omega); have x4 := hL3.box 4 (by omega); clear hb3)
            | (go_at_call 14; refine (K14.out _ (by assumption)).mono ?_; rintro e w3 ⟨rfl, hb3⟩; have hbw := below_step (by assumption) hb3; have hL3 := hLA.next hbw; have x0 := hL3.box 0 (by omega); have x1 := hL3.box 1 (by omega); have x2 := hL3.box 2 (by omega); have x3 := hL3.box 3 (by omega); have x4 := hL3.box 4 (by omega); clear hb3))
          all_goals go_wp2
          all_goals go_ret
          all_goals exact ⟨rfl, hLA.below.trans (Below.mono (by assumption) (Nat.le_of_lt hLA.size))⟩
end Go.Proofs.Qxb6601204a
